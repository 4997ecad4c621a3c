import PyProof.Rows.All
import Wide.All
import OpenK.AllK
import Wide.FinOn
import PySem.Challenge.RW_of0116_01
open PySem PySem.W PySem.Calls PyProof.Rows
set_option Elab.async false
set_option linter.unusedVariables false
set_option linter.constructorNameAsVariable false
namespace Mine
noncomputable abbrev Zs (s : String) : Str := Str.ofString s
section
set_option maxRecDepth 100000
set_option maxHeartbeats 8000000
section
local macro_rules | `(tactic| o_head $H:term) => `(tactic| exact (by assumption : Hook -> PySem.Challenge.rw_of0116_01.row.Holds) $H)
theorem kk (h : Hook -> PySem.Challenge.rw_of0116_01.row.Holds) : PySem.Challenge.rw_of0116_01.row.Holds := by k_head
end
noncomputable abbrev STf := SharedT -> Thread -> Option (SharedT × Thread)
noncomputable def strict {α : Type} (s : SharedT) (k : SharedT -> α) : α := match s with
 | ⟨T, n, l, ⟨g⟩, ⟨d1, d2, d3, d4⟩, t, o⟩ => match t with
  | 0 => k ⟨T, n, l, ⟨g⟩, ⟨d1, d2, d3, d4⟩, 0, o⟩
  | t + 1 => k ⟨T, n, l, ⟨g⟩, ⟨d1, d2, d3, d4⟩, t + 1, o⟩
theorem strict_eq {α : Type} (s : SharedT) (k : SharedT -> α) : strict s k = k s := by
 obtain ⟨T, n, l, ⟨g⟩, ⟨d1, d2, d3, d4⟩, t, o⟩ := s
 cases t <;> rfl
noncomputable def impT (f : STf) : Nat -> SharedT -> Thread -> Option SharedT
 | 0, _, _ => none
 | n + 1, s, t => match t.atExitBegin with
  | some [] => some s
  | some (_ :: _) => none
  | none => match f s t with
   | some (s', t') => strict s' fun s' => impT f n s' t'
   | none => none
noncomputable def topT (f : STf) (ok : Thread -> Bool) : Nat -> SharedT -> Thread -> Option SharedT
 | 0, _, _ => none
 | n + 1, s, t => match through t with
  | true => some s
  | false => match ok t with
   | false => none
   | true => match f s t with
    | some (s', t') => strict s' fun s' => topT f ok n s' t'
    | none => none
theorem impT_of {tb : String -> Option Builtin} {p : Program} {w : World} {n : Nat} : ∀ {s s' : SharedT} {t : Thread}, impT (stepT (denote tb) p w) n s t = some s' -> importEnds tb p w n s.abs t = some s'.abs := by
 induction n with
 | zero => intro s s' t h; cases h
 | succ n ih =>
  intro s s' t h
  unfold impT at h
  unfold importEnds
  cases he : t.atExitBegin with
  | some x =>
   rw [he] at h
   cases x with
   | nil => cases h; rfl
   | cons a l => cases h
  | none =>
   rw [he] at h
   cases hs : stepT (denote tb) p w s t with
   | none => rw [hs] at h; cases h
   | some r => rw [hs] at h; dsimp only; rw [stepT_spec (s' := r.1) (t' := r.2) hs]; exact ih (by rw [<- strict_eq r.1 (fun s' => impT _ n s' r.2)]; exact h)
theorem topT_of {tb : String -> Option Builtin} {p : Program} {w : World} {n0 : Nat} {ann : Option Value} {n : Nat} : ∀ {s s' : SharedT} {t : Thread}, topT (stepT (denote tb) p w) (stepOk n0 ann) n s t = some s' -> topRun tb p w n0 ann n s.abs t = some s'.abs := by
 induction n with
 | zero => intro s s' t h; cases h
 | succ n ih =>
  intro s s' t h
  unfold topT at h
  unfold topRun
  cases he : through t with
  | true => rw [he] at h; cases h; rfl
  | false =>
   rw [he] at h
   cases hk : stepOk n0 ann t with
   | false => rw [hk] at h; cases h
   | true =>
    rw [hk] at h
    cases hs : stepT (denote tb) p w s t with
    | none => rw [hs] at h; cases h
    | some r => rw [hs] at h; dsimp only; rw [stepT_spec (s' := r.1) (t' := r.2) hs]; exact ih (by rw [<- strict_eq r.1 (fun s' => topT _ _ n s' r.2)]; exact h)
noncomputable def lay : BT -> Nat -> List Obj -> Option BT
 | t, _, [] => some t
 | t, n, o :: l => match ((t.ins n o).get n).isSome with
  | true => lay (t.ins n o) (n + 1) l
  | false => none
theorem lay_spec {life : Life} {l : List Obj} : ∀ {t : BT} {n : Nat} {t' : BT}, lay t n l = some t' -> absHeap t' (n + l.length) life = ⟨(absHeap t n life).objs ++ l.toArray, life⟩ := by
 induction l with
 | nil => intro t n t' h; cases h; exact congrArg (Heap.mk · life) (Array.append_empty).symm
 | cons o l ih =>
  intro t n t' h
  unfold lay at h
  cases hg : ((t.ins n o).get n).isSome with
  | false => rw [hg] at h; cases h
  | true =>
   rw [hg] at h
   have e := ih h
   rw [absHeap_ins hg] at e
   rw [List.length_cons, show n + (l.length + 1) = n + 1 + l.length by omega, e]
   refine congrArg (Heap.mk · life) ?_
   show ((absHeap t n life).objs.push o) ++ l.toArray = _
   apply Array.toList_inj.1
   simp
noncomputable def liftT (s : Shared) : Option SharedT := (lay .nil 0 s.heap.objs.toList).map fun T => ⟨T, s.heap.objs.toList.length, s.heap.life, s.gens, s.drawn, s.toks, s.os⟩
theorem liftT_abs {s : Shared} {S : SharedT} (h : liftT s = some S) : S.abs = s := by
 obtain ⟨T, h1, rfl⟩ := Option.map_eq_some_iff.1 h
 have e := lay_spec (life := s.heap.life) h1
 rw [Nat.zero_add] at e
 obtain ⟨⟨o, life⟩, g, d, k, os⟩ := s
 show Shared.mk (absHeap T _ _) _ _ _ _ = _
 rw [e]
 refine congrArg (Shared.mk · g d k os) (congrArg (Heap.mk · life) ?_)
 apply Array.toList_inj.1
 simp [absHeap, BT.list]
noncomputable def fill (g : Nat -> Obj) : Nat -> Nat -> Frag -> List Obj
 | 0, _, _ => []
 | k + 1, i, [] => g i :: fill g k (i + 1) []
 | k + 1, i, p :: l => match Nat.beq p.1 i with
  | true => p.2 :: fill g k (i + 1) l
  | false => g i :: fill g k (i + 1) (p :: l)
theorem fill_eq {h : Nat -> Option Obj} {k : Nat} : ∀ {i : Nat} {kn : Frag}, (kn.map fun p => h p.1) = (kn.map fun p => some p.2) -> fill (fun i => (h i).getD default) k i kn = (List.range' i k).map fun j => (h j).getD default := by
 induction k with
 | zero => intro i kn e; rfl
 | succ k ih =>
  intro i kn e
  rw [List.range'_succ, List.map_cons]
  cases kn with
  | nil => exact congrArg (_ :: ·) (ih rfl)
  | cons p l =>
   unfold fill
   cases hb : Nat.beq p.1 i with
   | true =>
    rw [List.map_cons, List.map_cons] at e
    injection e with e1 e2
    rw [Nat.eq_of_beq_eq_true hb] at e1
    show p.2 :: _ = _
    rw [ih e2, e1]; rfl
   | false => exact congrArg (_ :: ·) (ih e)
noncomputable def sh (kn : Frag) (n toks : Nat) (g : Nat -> Obj) (os : OsState) : Shared := ⟨⟨(fill g n 0 kn).toArray, {}⟩, #[], {}, toks, os⟩
noncomputable def dg (kn : Frag) (S : SharedT) : List (Option Obj) × Nat × Life × Array GenState × Drawn × Nat := (kn.map fun p => S.tree.get p.1, S.n, S.life, S.gens, S.drawn, S.toks)
theorem dg_sh {kn : Frag} {n toks : Nat} {S : SharedT} (e : dg kn S = (kn.map fun p => some p.2, n, {}, #[], {}, toks)) : S.abs = sh kn n toks (fun i => (S.tree.get i).getD default) S.os := by
 obtain ⟨T, m, life, gens, drawn, tk, os⟩ := S
 injection e with e1 e
 injection e with e2 e
 injection e with e3 e
 injection e with e4 e
 injection e with e5 e6
 cases e2; cases e3; cases e4; cases e5; cases e6
 show Shared.mk (absHeap T m {}) _ _ _ _ = Shared.mk _ _ _ _ _
 refine congrArg (Shared.mk · _ _ _ _) ?_
 unfold absHeap BT.list
 rw [List.range_eq_range', fill_eq e1]
noncomputable def getT (S : SharedT) (a : Addr) : Option Obj := match Nat.blt a S.n with
 | true => (S.tree.get a).bind alive
 | false => none
theorem getT_ok {S : SharedT} {a : Addr} {o : Obj} (h : getT S a = some o) : S.abs.heap.get? a = some o := by
 unfold getT at h
 cases hb : Nat.blt a S.n with
 | false => rw [hb] at h; cases h
 | true =>
  rw [hb] at h
  obtain ⟨v, h1, h2⟩ := Option.bind_eq_some_iff.1 h
  exact (abs_get (Nat.le_of_ble_eq_true hb) h1).trans h2
theorem gets_ok {S : SharedT} {l : List Addr} : ∀ {k : List (Addr × Obj)}, l.map (getT S) = k.map (fun p => some p.2) -> l.map S.abs.heap.get? = k.map fun p => some p.2 := by
 induction l with
 | nil => intro k h; cases k with
  | nil => rfl
  | cons => cases h
 | cons a l ih => intro k h; cases k with
  | nil => cases h
  | cons p k =>
   rw [List.map_cons, List.map_cons] at h ⊢
   injection h with h1 h2
   rw [getT_ok h1, ih h2]
noncomputable abbrev stepF (p : Program) (w : World) : STf := PySem.W.Fast.tw10156331382660048174 (PySem.W.Fast.tw11892475500146522536 PySem.W.Fast.tw14364793385576792824) p w
theorem stepF_eq (p : Program) (w : World) : stepF p w = stepT (denote treeTable) p w := by
 show PySem.W.Fast.tw10156331382660048174 (PySem.W.Fast.tw11892475500146522536 PySem.W.Fast.tw14364793385576792824) p w = _
 rw [<- PySem.W.Fast.te10156331382660048174, <- PySem.W.Fast.te11892475500146522536, <- PySem.W.Fast.te14364793385576792824]
noncomputable abbrev pwl : Program := PySem.Challenge.pw_of0116_01
noncomputable def bE : List Stmt := behindTheImports pwl
noncomputable def envE : Env := { scope := pwl.main.scope, locals := mainNs, globals := mainNs, cells := [], code := .ref 36, frame := some 37 }
noncomputable abbrev kE : Code := .body bE envE
noncomputable abbrev p00 : Pos := ⟨0, 0, 0, 0⟩
noncomputable abbrev tF : List Frame := [topFrame p00]
noncomputable abbrev annE : Option Value := some (.ref 6)
noncomputable def sL1 : List Stmt := bE.take 17
noncomputable def sL2 : List Stmt := (bE.drop 17).take 2
noncomputable def sL3 : List Stmt := (bE.drop 17).drop 2
noncomputable def kutO (m : Nat) (v : Option Value) : Obj -> Obj
 | ⟨c, d, .dict es _, sl⟩ => ⟨c, d, .dict (List.toArray (match es.toList.take m with | [] => ([] : List DictEntry) | e :: l => { hash := e.hash, key := e.key, val := v.getD e.val } :: l)) m, sl⟩
 | o => o
noncomputable def ko (P : Params) (a : Addr) : Obj := ((kk.heap_1 P).lookup a).getD default
noncomputable def putF (a : Addr) (o : Obj) : Frag -> Frag
 | [] => [(a, o)]
 | p :: l => match Nat.blt a p.1 with
  | true => (a, o) :: p :: l
  | false => match Nat.beq a p.1 with
   | true => (a, o) :: l
   | false => p :: putF a o l
noncomputable def ent (P : Params) (x : String) (t : Nat) (v : Value) : DictEntry := ⟨PyData.keyHash P (Str.ofString x), .str (Str.ofString x) t, v⟩
noncomputable def o1 (P : Params) : Obj := ⟨.type "dict", none, .dict #[ent P "builtins" 162 (.ref 4), ent P "__main__" 163 (.ref 5), ent P "_sre" 244 (.ref 12), ent P "_collections" 292 (.ref 30)] 4, #[]⟩
noncomputable def kb (P : Params) (l : Frag) : Frag := putF 0 (boot_o_0 P) <| putF 1 (o1 P) <| putF 4 (boot_o_4 P) <| putF 5 (boot_o_5 P) <| putF 6 (boot_o_6 P) l
noncomputable def mdO (a : Addr) : Obj := ⟨.type "module", some a, .plain, #[]⟩
noncomputable def kn0 (P : Params) : Frag := kb P <| putF 2 (kutO 13 none (ko P 2)) <| putF 3 (kutO 11 (some (.str (Zs "__main__") 164)) (ko P 3)) <| putF 11 (Obj.mk (.type "dict") none (Data.dict #[ent P "__name__" 247 (.str (Zs "_sre") 246), ent P "__doc__" 248 .none, ent P "__package__" 250 (.str (Zs "") 249), ent P "__loader__" 251 (.builtin "off-the-table:_sre.__loader__:shared#opaque"), ent P "__spec__" 252 (.builtin "off-the-table:_sre.__spec__:shared#opaque"), ent P "compile" 253 (.builtin "_sre.compile"), ent P "template" 254 (.builtin "off-the-table:_sre.template:shared#opaque"), ent P "getcodesize" 255 (.builtin "off-the-table:_sre.getcodesize:shared#opaque"), ent P "ascii_iscased" 256 (.builtin "off-the-table:_sre.ascii_iscased:shared#opaque"), ent P "unicode_iscased" 257 (.builtin "off-the-table:_sre.unicode_iscased:shared#opaque"), ent P "ascii_tolower" 258 (.builtin "off-the-table:_sre.ascii_tolower:shared#opaque"), ent P "unicode_tolower" 259 (.builtin "off-the-table:_sre.unicode_tolower:shared#opaque"), ent P "MAGIC" 261 (.int 20230612 260), ent P "CODESIZE" 263 (.int 4 262), ent P "MAXREPEAT" 265 (.int 4294967295 264), ent P "MAXGROUPS" 267 (.int 1073741823 266), DictEntry.mk (PyData.keyHash P (Zs "copyright")) (.str (Zs "copyright") 269) (.str (Zs " SRE 2.2.2 Copyright (c) 1997-2002 by Secret Labs AB ") 268)] 17) #[]) <| putF 12 (mdO 11) <| putF 30 (mdO 29) []
noncomputable def sA (w : World) (g : Nat -> Obj) (os : OsState) : Shared := match topGo treeTable pwl w 34 annE 12 (sh (kn0 w.params) 34 318 g os) (topStub pwl) with | some r => r.1 | none => sh [] 0 0 g os
noncomputable def sB (w : World) (g : Nat -> Obj) (os : OsState) : Shared := match segRun treeTable pwl w 34 annE 1 1 (sA w g os) (blockOf bE envE kE p00 tF) with | some r => r.2.1 | none => sh [] 0 0 g os
noncomputable def clsO (x : String) (a d s t1 t2 : Nat) : Obj := ⟨.type "type", none, .cls (ClassData.mk (Str.ofString x) [.ref 250] [.ref a, .ref 250, .type "object"] d (Str.ofString x) true [] [] false none false), #[some (.ref s), none, some (.str (Str.ofString x) t1), some (.str (Str.ofString x) t2), some .none, some (.bool true)]⟩
noncomputable def lnV : List (Nat × Nat) -> List Value
 | [] => []
 | p :: l => .int p.1 0 :: .int 0 0 :: .ref p.2 :: lnV l
noncomputable def lnL : List (Nat × Nat) := [(3, 43), (10, 66), (19, 73), (101, 200), (112, 212), (117, 219), (124, 226), (126, 239), (133, 261), (135, 273), (137, 285), (307, 515)]
noncomputable def adE : List Addr := [39, 196, 208, 215, 758, 765, 772, 779, 793, 903, 911, 918, 925, 932, 939, 944]
noncomputable def putE (l : Frag) : List Addr -> Frag
 | [] => putF 12 (mdO 11) (putF 30 (mdO 29) l)
 | a :: k => putF a ⟨.none, none, .fields #[], #[]⟩ (putE l k)
noncomputable def knT (P : Params) (n : Nat) (l : Frag) : Frag := putE (putF 35 ⟨.none, none, .fields (List.toArray (lnV (lnL.take n))), #[]⟩ <| putF 36 (Obj.mk (.type "code") none (Data.fields #[.str (Zs "<module>") 319, .str (Zs "<module>") 320, .str (Zs "/claim/cut.py") 321, .int 1 0, .int 0 0, .int 0 0, .int 0 0, .int 0 0, .ref 34, .bool false, .int 318 0, .ref 35, .none, .none, .none, .none, .int 322 0, .int 1 0, .str (Zs "/claim/cut.py") 323]) #[]) <| putF 37 (Obj.mk (.type "frame") none Data.plain #[some (.ref 36), some (.ref 3), some (.ref 3), none, some (.str (Zs "__main__") 164), none, some (.ref 0)]) l) (adE.take 4)
noncomputable def knF (P : Params) (n m : Nat) : Frag := kb P <| putF 3 (kutO m (some (.str (Zs "io") 648)) (ko P 3)) <| (kk.heap_1 P).takeWhile fun p => Nat.blt p.1 n
noncomputable def kn1 (P : Params) : Frag := putF 265 (clsO "BufferedIOBase" 265 264 256 720 728) <| putF 277 (clsO "TextIOBase" 277 276 268 738 746) <| knT P 10 <| knF P 280 25
noncomputable def kn2 (P : Params) : Frag := knT P 12 <| knF P 757 27
noncomputable def kn3 (P : Params) : Frag := putE (kb P (kk.heap_1 P)) adE
noncomputable def seg (w : World) (n : Nat) (s : Shared) (l : List Stmt) (p : Pos) : Option (Flow × SharedT × Code × Pos) := (liftT s).bind fun S => PySem.W.Fast.tw10110043849684766642 PySem.W.Fast.tw14364793385576792824 pwl w 34 annE 1 n S (piecesOf l envE kE p tF)
noncomputable def vw : Program := view PySem.Challenge.pw_of0116_01 [0, 1, 2, 4, 5, 6, 8, 10, 11, 13, 14, 15, 16, 17, 18, 19, 20, 22, 23, 24, 25, 27, 28, 30, 32, 33, 34, 35, 37, 38, 39, 40, 41]
noncomputable def loose : List Str := ["tspecials", "_name_disallowed_re", "_value_disallowed_re", "_formatparam", "_twin_re_1", "UnsupportedOperation", "IOBase", "BufferedIOBase", "TextIOBase", "BytesIO", "StringIO", "join_path", "shlex", "split", "join_shlex", "_find_unsafe"].map Str.ofString
noncomputable def fsts : Frag -> List Addr
 | [] => []
 | p :: l => p.1 :: fsts l
noncomputable def adrs : List Addr := fsts (kk.heap_1 (aWorld 1).params)
theorem adrs_ok (P : Params) : adrs = (kk.heap_1 P).map (·.1) := by kernel_rfl
noncomputable abbrev HK : Hook := kHook kk.heap_1 adrs adrs_ok
noncomputable abbrev xt : Shared -> Bool := fun s => xlAt vw [] s && recOk PySem.Challenge.rw_of0116_01.row.records s
end
section
set_option maxRecDepth 100000
set_option maxHeartbeats 800000
theorem opened {p : Program} {w : World} {N n tk : Nat} {kn : Frag} (h : ((liftT (start (opening p)).1).bind fun S => (impT (stepF (opening p) w) N S (start (opening p)).2).bind fun S1 => (PySem.W.Fast.tw14289696077712309145 p S1.abs).bind liftT).map (dg kn) = some (kn.map fun p => some p.2, n, {}, #[], {}, tk)) : ∃ g os, fencedOpening treeTable p w N = some (sh kn n tk g os) := by
 obtain ⟨S2, h1, h2⟩ := Option.map_eq_some_iff.1 h
 obtain ⟨S, a, h1⟩ := Option.bind_eq_some_iff.1 h1
 obtain ⟨S1, b, h1⟩ := Option.bind_eq_some_iff.1 h1
 obtain ⟨s0, c, d⟩ := Option.bind_eq_some_iff.1 h1
 rw [stepF_eq] at b
 have e := impT_of b
 rw [liftT_abs a] at e
 rw [<- PySem.W.Fast.te14289696077712309145] at c
 refine ⟨fun i => (S2.tree.get i).getD default, S2.os, ?_⟩
 rw [<- dg_sh h2, liftT_abs d]
 unfold fencedOpening
 rw [e]
 exact c
theorem seg_of {w : World} {n : Nat} {s : Shared} {l : List Stmt} {p : Pos} {r : Flow × SharedT × Code × Pos} (h : seg w n s l p = some r) : segRun treeTable pwl w 34 annE 1 n s (piecesOf l envE kE p tF) = some (r.1, r.2.1.abs, r.2.2) := by
 unfold seg at h
 rw [<- PySem.W.Fast.te10110043849684766642, <- PySem.W.Fast.te14364793385576792824] at h
 obtain ⟨S, a, b⟩ := Option.bind_eq_some_iff.1 h
 rw [<- liftT_abs a]
 exact segRun_of b
theorem seg_dg {w : World} {n m tk : Nat} {s : Shared} {l : List Stmt} {p q : Pos} {c : Code} {kn : Frag} (h : (seg w n s l p).map (fun r => (r.1, r.2.2, dg kn r.2.1)) = some (.next, (c, q), kn.map fun p => some p.2, m, {}, #[], {}, tk)) : ∃ g os, segRun treeTable pwl w 34 annE 1 n s (piecesOf l envE kE p tF) = some (.next, sh kn m tk g os, c, q) := by
 obtain ⟨⟨f, S, c', q'⟩, a, b⟩ := Option.map_eq_some_iff.1 h
 have a := seg_of a
 have b1 : f = .next := congrArg Prod.fst b
 have b2 : (c', q') = (c, q) := congrArg (fun x => x.2.1) b
 have b3 : dg kn S = _ := congrArg (fun x => x.2.2) b
 refine ⟨fun i => (S.tree.get i).getD default, S.os, ?_⟩
 rw [a, dg_sh b3, b1, b2]
theorem seg_end {w : World} {n k m tk : Nat} {s : Shared} {l : List Stmt} {p : Pos} {kn : Frag} (h : ((seg w n s l p).bind fun r => (topT (stepF pwl w) (PySem.W.Fast.tw6613529449190102663 34 annE) k r.2.1 ⟨doneF .next, kE, r.2.2.2, tF⟩).map fun S => ((r.1, r.2.2.1), dg kn S)) = some ((.next, kE), kn.map fun p => some p.2, m, {}, #[], {}, tk)) : ∃ g os, topRun treeTable pwl w 34 annE (n + k) s (restOf l envE kE p tF) = some (sh kn m tk g os) := by
 obtain ⟨⟨f, S, c, q⟩, a, b⟩ := Option.bind_eq_some_iff.1 h
 obtain ⟨S', b, d⟩ := Option.map_eq_some_iff.1 b
 have a := seg_of a
 have d1 : (f, c) = (.next, kE) := congrArg Prod.fst d
 have d2 : dg kn S' = _ := congrArg Prod.snd d
 obtain ⟨rfl, rfl⟩ := Prod.mk.inj d1
 rw [stepF_eq, <- PySem.W.Fast.te6613529449190102663] at b
 refine ⟨fun i => (S'.tree.get i).getD default, S'.os, ?_⟩
 rw [<- dg_sh d2, <- List.append_nil l]
 exact piece_app a (piece_nil (topT_of b))
theorem left_gen {p q : Program} {loose : List Str} {Xt : Shared -> Bool} {N M n : Nat} {ann : Option Value} {K : Params -> Frag} {as : List Addr} {e : ∀ P, as = (K P).map (·.1)} {w : World} {s0 s1 : Shared} (h0 : fencedOpening treeTable p w N = some s0)
 (h1 : (fun s : Shared => (s.heap.isNs mainGlobals && s.gens.size == 0, s.heap.objs.size, s.heap.nsMap mainGlobals "__annotations__")) s0 = (true, n, ann))
 (h2 : topRun treeTable p w n ann M s0 (topStub p) = some s1) (hM : Nat.ble M N = true)
 (h3 : (fun s0 s1 : Shared => staticsOk (importedModules p.main.body) s0.heap s1.heap && namesBound p s1.heap && gensDone s1 && laidKept s0.heap s1.heap) s0 s1 = true)
 (h4 : openSeen q loose (importedModules p.main.body) Xt true s1 = openGood q loose) (h5 : as.map s1.heap.get? = (K w.params).map fun p => some p.2) :
 (openEnds treeTable p w N).map (fun s => (openSeen q loose (importedModules p.main.body) Xt true s, (kHook K as e).obs s)) = some (openGood q loose, (kHook K as e).val w) := by
 have z1 := congrArg Prod.fst h1
 have z2 := congrArg (fun x => x.2.1) h1
 have z3 := congrArg (fun x => x.2.2) h1
 dsimp only at z1 z2 z3
 have r := topRun_mono (N - M) _ _ _ _ h2
 rw [show M + (N - M) = N by have := Nat.le_of_ble_eq_true hM; omega] at r
 have t : topFrom treeTable p w N s0 = some s1 := by
  unfold topFrom
  rw [z1, z2, z3, r]
  show (match staticsOk (importedModules p.main.body) s0.heap s1.heap && namesBound p s1.heap && gensDone s1 && laidKept s0.heap s1.heap with | true => some s1 | false => none) = _
  dsimp only at h3
  rw [h3]
 unfold openEnds
 rw [h0]
 show (topFrom treeTable p w N s0).map _ = _
 rw [t]
 exact congrArg some (congr (congrArg Prod.mk h4) h5)
theorem gets_of {s : Shared} {l : List Addr} {k : List (Addr × Obj)} (h : (liftT s).map (fun S => l.map (getT S)) = some (k.map fun p => some p.2)) : l.map s.heap.get? = k.map fun p => some p.2 := by
 obtain ⟨S, a, b⟩ := Option.map_eq_some_iff.1 h
 rw [<- liftT_abs a]
 exact gets_ok b
theorem bE_eq : sL1 ++ (sL2 ++ sL3) = bE := by
 unfold sL1 sL2 sL3
 rw [List.take_append_drop, List.take_append_drop]
end
section
set_option maxRecDepth 100000
set_option maxHeartbeats 8000000
theorem open_run (w : World) : ((liftT (start (opening pwl)).1).bind fun S => (impT (stepF (opening pwl) w) 12336 S (start (opening pwl)).2).bind fun S1 => (PySem.W.Fast.tw14289696077712309145 pwl S1.abs).bind liftT).map (dg (kn0 w.params)) = some ((kn0 w.params).map fun p => some p.2, 34, {}, #[], {}, 318) := by kernel_rfl
theorem pre_run (w : World) (g : Nat -> Obj) (os : OsState) : topGo treeTable pwl w 34 annE 12 (sh (kn0 w.params) 34 318 g os) (topStub pwl) = some (sA w g os, ⟨denote treeTable kE, kE, p00, tF⟩) := by kernel_rfl
theorem block_run (w : World) (g : Nat -> Obj) (os : OsState) : segRun treeTable pwl w 34 annE 1 1 (sA w g os) (blockOf bE envE kE p00 tF) = some (.next, sB w g os, kE, p00) := by kernel_rfl
theorem run_1 (w : World) (g : Nat -> Obj) (os : OsState) : (seg w 2200 (sB w g os) sL1 p00).map (fun r => (r.1, r.2.2, dg (kn1 w.params) r.2.1)) = some (.next, (kE, ⟨135, 0, 136, 21⟩), (kn1 w.params).map fun p => some p.2, 280, {}, #[], {}, 756) := by kernel_rfl
theorem run_2 (w : World) (g : Nat -> Obj) (os : OsState) : (seg w 3000 (sh (kn1 w.params) 280 756 g os) sL2 ⟨135, 0, 136, 21⟩).map (fun r => (r.1, r.2.2, dg (kn2 w.params) r.2.1)) = some (.next, (kE, ⟨307, 0, 511, 17⟩), (kn2 w.params).map fun p => some p.2, 757, {}, #[], {}, 1305) := by kernel_rfl
theorem run_3 (w : World) (g : Nat -> Obj) (os : OsState) : ((seg w 1500 (sh (kn2 w.params) 757 1305 g os) sL3 ⟨307, 0, 511, 17⟩).bind fun r => (topT (stepF pwl w) (PySem.W.Fast.tw6613529449190102663 34 annE) 5 r.2.1 ⟨doneF .next, kE, r.2.2.2, tF⟩).map fun S => ((r.1, r.2.2.1), dg (kn3 w.params) S)) = some ((.next, kE), (kn3 w.params).map fun p => some p.2, 948, {}, #[], {}, 1584) := by kernel_rfl
theorem pre_ok (w : World) (g : Nat -> Obj) (os : OsState) : (fun s : Shared => (s.heap.isNs mainGlobals && s.gens.size == 0, s.heap.objs.size, s.heap.nsMap mainGlobals "__annotations__")) (sh (kn0 w.params) 34 318 g os) = (true, 34, annE) := by kernel_rfl
theorem end_ok (w : World) (g0 g : Nat -> Obj) (os0 os : OsState) : (fun s0 s1 : Shared => staticsOk (importedModules pwl.main.body) s0.heap s1.heap && namesBound pwl s1.heap && gensDone s1 && laidKept s0.heap s1.heap) (sh (kn0 w.params) 34 318 g0 os0) (sh (kn3 w.params) 948 1584 g os) = true := by kernel_rfl
theorem looks_ok (w : World) (g : Nat -> Obj) (os : OsState) : PySem.W.Fast.tw4187177175401517315 vw loose (importedModules pwl.main.body) xt true (sh (kn3 w.params) 948 1584 g os) = openGood vw loose := by kernel_rfl
theorem gets_run (w : World) (g : Nat -> Obj) (os : OsState) : (liftT (sh (kn3 w.params) 948 1584 g os)).map (fun S => adrs.map (getT S)) = some ((kk.heap_1 w.params).map fun p => some p.2) := by kernel_rfl
end
section
set_option maxRecDepth 100000
set_option maxHeartbeats 800000
theorem topped (w : World) (g : Nat -> Obj) (os : OsState) : ∃ g' os', topRun treeTable pwl w 34 annE (12 + (1 + (2200 + (3000 + (1500 + 5))))) (sh (kn0 w.params) 34 318 g os) (topStub pwl) = some (sh (kn3 w.params) 948 1584 g' os') := by
 obtain ⟨g1, o1, e1⟩ := seg_dg (run_1 w g os)
 obtain ⟨g2, o2, e2⟩ := seg_dg (run_2 w g1 o1)
 obtain ⟨g3, o3, e3⟩ := seg_end (run_3 w g2 o2)
 refine ⟨g3, o3, ?_⟩
 have e := piece_app e1 (piece_app e2 e3)
 rw [bE_eq] at e
 exact go_top (pre_run w g os) (piece_block (block_run w g os) e)
theorem left : LeftO pwl vw loose xt HK.obs HK.val 12336 := fun w => by
 obtain ⟨g, os, h0⟩ := opened (open_run w)
 obtain ⟨g', os', h2⟩ := topped w g os
 have k := looks_ok w g' os'
 rw [<- PySem.W.Fast.te4187177175401517315] at k
 exact left_gen (e := adrs_ok) h0 (pre_ok w g os) h2 rfl (end_ok w g g' os os') k (gets_of (gets_run w g' os'))
theorem dLaw_ok : (defOf vw PySem.Challenge.rw_of0116_01.row.name).isSome = true := by kernel_rfl
noncomputable def dLaw : DefRec × List (Str × Expr) := (defOf vw PySem.Challenge.rw_of0116_01.row.name).get dLaw_ok
namespace said
theorem tw5404603916122782293 : True := ⟨⟩
theorem tw1572243449392145062 : True := ⟨⟩
end said
set_option Elab.async true in
theorem said (h : PySem.Challenge.rw_of0116_01.row.wellSaid = true -> PySem.Challenge.rw_of0116_01.row.Holds) : PySem.Challenge.rw_of0116_01.Holds := by
 o_law
 exact h ‹_›
end
set_option tactic.hygienic false
section
set_option genInjectivity false
set_option genSizeOf false
noncomputable def leq : List Nat -> List Nat -> Bool
 | [], [] => true
 | a :: x, b :: y => match Nat.beq a b with | true => leq x y | false => false
 | _, _ => false
theorem leq_iff : ∀ {x y : List Nat}, leq x y = true ↔ x = y
 | [], [] => by simp [leq]
 | [], _ :: _ => by simp [leq]
 | _ :: _, [] => by simp [leq]
 | a :: x, b :: y => by
  unfold leq
  cases h : Nat.beq a b with
  | true => have := Nat.eq_of_beq_eq_true h; subst this; simp [leq_iff]
  | false => have : a ≠ b := Nat.ne_of_beq_eq_false h; simp [this]
noncomputable def seq (a b : Str) : Bool := leq a.cps.toList b.cps.toList
theorem seq_iff {a b : Str} : seq a b = true ↔ a = b := by
 unfold seq
 rw [leq_iff]
 constructor
 · intro h; cases a; cases b; simp only [Str.mk.injEq]; exact Array.toList_inj.mp h
 · rintro rfl; rfl
theorem seq_false {a b : Str} : seq a b = false ↔ a ≠ b := by
 rw [<- Bool.not_eq_true, seq_iff]
noncomputable def look {α : Type} (x : Str) : List (Str × α) -> Option α
 | [] => none
 | p :: r => match seq x p.1 with | true => some p.2 | false => look x r
noncomputable def put {α : Type} (x : Str) (v : α) : List (Str × α) -> List (Str × α)
 | [] => [(x, v)]
 | p :: r => match seq x p.1 with | true => (p.1, v) :: r | false => p :: put x v r
noncomputable def nlook {α : Type} (x : Nat) : List (Nat × α) -> Option α
 | [] => none
 | p :: r => match Nat.beq x p.1 with | true => some p.2 | false => nlook x r
noncomputable def nth {α : Type} : List α -> Nat -> Option α
 | [], _ => none
 | a :: _, 0 => some a
 | _ :: r, n + 1 => nth r n
noncomputable def setNth {α : Type} : List α -> Nat -> α -> List α
 | [], _, _ => []
 | _ :: r, 0, x => x :: r
 | a :: r, n + 1, x => a :: setNth r n x
noncomputable def len {α : Type} : List α -> Nat
 | [] => 0
 | _ :: r => Nat.succ (len r)
@[irreducible] noncomputable def bnd {α β : Type} (x : Option α) (f : α -> Option β) : Option β := match x with | none => none | some a => f a
@[irreducible] noncomputable def pk {α : Type} (b : Bool) (x y : α) : α := match b with | true => x | false => y
@[irreducible] noncomputable def gd {α : Type} (b : Bool) (x : Option α) : Option α := match b with | true => x | false => none
noncomputable def isNil {α : Type} : List α -> Bool | [] => true | _ :: _ => false
noncomputable def oneV {α : Type} : List α -> Option α
 | [] => none
 | a :: l => gd (isNil l) (some a)
noncomputable def twoV {α : Type} : List α -> Option (α × α)
 | [] => none
 | a :: l => bnd (oneV l) fun b => some (a, b)
inductive AV where
 | none
 | bool (b : Bool)
 | int (i : Int)
 | str (s : Str)
 | ref (i : Nat)
 | raw (v : Value)
 | dat (d : PyData)
 | unk
inductive AO where
 | junk
 | ns (l : List (Str × AV))
 | inst (C : Addr) (d : Nat)
 | dict (l : List (Str × AV))
 | list (l : List PyData)
 | frl (l : List PyData)
 | tuple (l : List AV)
 | deq
 | sdict (rest : List Nat)
 | cell (v : AV)
noncomputable abbrev St := List AO
inductive Fl where
 | next | brk | cont
 | ret (v : AV)
inductive At where
 | own
 | meth (f : Addr)
 | prop (f : Addr)
inductive Src where
 | pos (i : Nat)
 | kw (x : Str)
 | dflt (v : Value)
structure Fn where
 fd : FuncData
 body : List Stmt
 npos : Nat
 kws : List Str
 binds : List (Str × Src)
 kwd : Option Str
 cel : Option Str
structure Tp where
 glob : List (Str × Value)
 fns : List (Addr × List Fn)
 ats : List (Addr × List (Str × At))
 cls : List (Addr × Addr)
 srch : List (Addr × List (Str × Bool))
structure Cx where
 fid : Nat
 scope : Scope
 cells : List (Str × Nat)
noncomputable abbrev Rs (α : Type) := Option (α × St × Bool)
@[irreducible] noncomputable def ok {α : Type} (v : α) (σ : St) : Rs α := some (v, σ, true)
structure Rec where
 ev : Cx -> Expr -> St -> Rs AV
 tr : Cx -> Expr -> St -> Rs Bool
 ex : Cx -> Stmt -> St -> Rs Fl
 call : Addr -> List AV -> List (Str × AV) -> St -> Rs AV
@[irreducible] noncomputable def bn2 {α β : Type} (x : Rs α) (f : α -> St -> Rs β) : Rs β := match x with
 | none => none
 | some p => match f p.1 p.2.1 with
  | none => none
  | some q => some (q.1, q.2.1, p.2.2 && q.2.2)
@[irreducible] noncomputable def chk {β : Type} (b : Bool) (x : Rs β) : Rs β := match x with
 | none => none
 | some q => some (q.1, q.2.1, b && q.2.2)
noncomputable def strV : AV -> Option Str
 | .str s => some s
 | _ => none
noncomputable def refV : AV -> Option Nat
 | .ref i => some i
 | _ => none
noncomputable def intV : AV -> Option Int
 | .int i => some i
 | _ => none
noncomputable def tupV : AV -> Option (List PyData)
 | .dat (.tuple d) => some d
 | _ => none
noncomputable def typV : AV -> Option String
 | .raw (.type f) => some f
 | _ => none
noncomputable def natI : Int -> Option Nat
 | .ofNat n => some n
 | .negSucc _ => none
noncomputable def lsO : Option AO -> Option (List PyData)
 | some (.list l) => some l
 | _ => none
noncomputable def dcO : Option AO -> Option (List (Str × AV))
 | some (.dict l) => some l
 | _ => none
noncomputable def sdO : Option AO -> Option (List Nat)
 | some (.sdict l) => some l
 | _ => none
noncomputable def inO : Option AO -> Option (Addr × Nat)
 | some (.inst C d) => some (C, d)
 | _ => none
noncomputable def strP : PyData -> Option Str
 | .str s => some s
 | _ => none
noncomputable def mtA : At -> Option Addr
 | .meth f => some f
 | _ => none
noncomputable def arg1 {β : Type} (vs : List AV) (ks : List (Str × AV)) (f : AV -> Rs β) : Rs β := gd (isNil ks) (bnd (oneV vs) f)
noncomputable def arg0 {β : Type} (vs : List AV) (ks : List (Str × AV)) (x : Rs β) : Rs β := gd (isNil ks) (gd (isNil vs) x)
noncomputable def nsO : Option AO -> Option (List (Str × AV))
 | some (.ns l) => some l
 | _ => none
noncomputable def nsOf (σ : St) (i : Nat) : Option (List (Str × AV)) := nsO (nth σ i)
noncomputable def dictOfA (σ : St) (i : Nat) : Option (List (Str × AV)) := dcO (nth σ i)
noncomputable def instOf (σ : St) (i : Nat) : Option (Addr × Nat) := inO (nth σ i)
noncomputable def atOf (T : Tp) (C : Addr) (x : Str) : Option At := bnd (nlook C T.ats) (look x)
noncomputable def cat (a b : Str) : Str := ⟨⟨a.cps.toList ++ b.cps.toList⟩⟩
noncomputable def small (s : Str) : Bool := Nat.ble (len s.cps.toList) 100000
noncomputable def fit {α : Type} (l : List α) : Bool := Nat.ble (len l) 10000
noncomputable def ieq (a b : Int) : Bool := match a, b with
 | .ofNat m, .ofNat n => Nat.beq m n
 | .negSucc m, .negSucc n => Nat.beq m n
 | _, _ => false
noncomputable def toP : AV -> Option PyData
 | .none => some .none
 | .bool b => some (.bool b)
 | .int i => some (.int i)
 | .str s => some (.str s)
 | .dat d => some d
 | _ => none
noncomputable def ofP : PyData -> AV
 | .none => .none
 | .bool b => .bool b
 | .int i => .int i
 | .str s => .str s
 | d => .dat d
noncomputable def toPs : List AV -> Option (List PyData)
 | [] => some []
 | v :: l => bnd (toP v) fun d => bnd (toPs l) fun ds => some (d :: ds)
noncomputable def lsAt (σ : St) (i : Nat) : Option (List PyData) := match nth σ i with
 | some (.list l) => some l
 | some (.frl l) => some l
 | _ => none
noncomputable def frzO (i : Nat) (σ : St) : Option AO -> Option (PyData × St)
 | some (.list l) => some (.list l, setNth σ i (.frl l))
 | some (.frl l) => some (.list l, σ)
 | _ => none
noncomputable def frzL (v : AV) (σ : St) : Option (PyData × St) := match v with
 | .ref i => frzO i σ (nth σ i)
 | v => bnd (toP v) fun d => some (d, σ)
noncomputable def frzLs : List AV -> St -> Option (List PyData × St)
 | [], σ => some ([], σ)
 | v :: l, σ => bnd (frzL v σ) fun p => bnd (frzLs l p.2) fun q => some (p.1 :: q.1, q.2)
noncomputable def frzT (i : Nat) (σ : St) : Option AO -> Option (PyData × St)
 | some (.tuple l) => bnd (frzLs l (setNth σ i .junk)) fun p => some (.tuple p.1, p.2)
 | o => frzO i σ o
noncomputable def frz (v : AV) (σ : St) : Option (PyData × St) := match v with
 | .ref i => frzT i σ (nth σ i)
 | v => bnd (toP v) fun d => some (d, σ)
noncomputable def frzs : List AV -> St -> Option (List PyData × St)
 | [], σ => some ([], σ)
 | v :: l, σ => bnd (frz v σ) fun p => bnd (frzs l p.2) fun q => some (p.1 :: q.1, q.2)
noncomputable def readL (v : AV) (σ : St) : Option PyData := match v with
 | .ref i => bnd (lsAt σ i) fun l => some (.list l)
 | v => toP v
noncomputable def readLs : List AV -> St -> Option (List PyData)
 | [], _ => some []
 | v :: l, σ => bnd (readL v σ) fun d => bnd (readLs l σ) fun ds => some (d :: ds)
noncomputable def readV (v : AV) (σ : St) : Option PyData := match v with
 | .ref i => (match nth σ i with
  | some (.tuple l) => bnd (readLs l σ) fun ds => some (.tuple ds)
  | _ => readL (.ref i) σ)
 | v => toP v
noncomputable def listOfV (v : AV) (σ : St) : Option (List PyData) := match v with
 | .ref i => lsAt σ i
 | .dat (.list l) => some l
 | _ => none
mutual
noncomputable def pdEq : PyData -> PyData -> Bool
 | .none, .none => true
 | .bool a, .bool b => (match a, b with | true, true => true | false, false => true | _, _ => false)
 | .int a, .int b => ieq a b
 | .bool a, .int b => ieq (match a with | true => 1 | false => 0) b
 | .int a, .bool b => ieq a (match b with | true => 1 | false => 0)
 | .str a, .str b => seq a b
 | .list a, .list b => pdEqs a b
 | .tuple a, .tuple b => pdEqs a b
 | _, _ => false
noncomputable def pdEqs : List PyData -> List PyData -> Bool
 | [], [] => true
 | a :: l, b :: r => (match pdEq a b with | true => pdEqs l r | false => false)
 | _, _ => false
end
noncomputable abbrev shp (d : PyData) : Bool := SeqAt.shaped d
noncomputable def memP (d : PyData) : List PyData -> Bool
 | [] => false
 | a :: l => (match pdEq a d with | true => true | false => memP d l)
noncomputable def remP (d : PyData) : List PyData -> Option (List PyData)
 | [] => none
 | a :: l => pk (pdEq a d) (some l) (bnd (remP d l) fun r => some (a :: r))
noncomputable def truthO (σ : St) : Option AO -> Rs Bool
 | some (.list l) => chk (fit l) (ok (!isNil l) σ)
 | some .deq => ok false σ
 | _ => none
noncomputable def truthA (v : AV) (σ : St) : Rs Bool := match v with
 | .none => ok false σ
 | .bool b => ok b σ
 | .int i => ok (!ieq i (.ofNat 0)) σ
 | .str s => chk (small s) (ok (!isNil s.cps.toList) σ)
 | .ref i => truthO σ (nth σ i)
 | _ => none
noncomputable def inList (c : Nat) : List Nat -> Bool
 | [] => false
 | d :: r => match Nat.beq c d with | true => true | false => inList c r
noncomputable def strsOf : List PyData -> Option (List Str)
 | [] => some []
 | d :: r => bnd (strP d) fun y => bnd (strsOf r) fun l => some (y :: l)
noncomputable def memS (x : Str) : List Str -> Bool
 | [] => false
 | y :: r => match seq y x with | true => true | false => memS x r
noncomputable def ilt (a b : Int) : Bool := match a, b with
 | .ofNat m, .ofNat n => Nat.blt m n
 | .ofNat _, .negSucc _ => false
 | .negSucc _, .ofNat _ => true
 | .negSucc m, .negSucc n => Nat.blt n m
noncomputable def rawR : Value -> Option Bool
 | .ref _ => some false
 | _ => none
noncomputable def isNone : AV -> Option Bool
 | .none => some true
 | .raw v => rawR v
 | .unk => none
 | .dat _ => none
 | _ => some false
noncomputable def sameType (a b : AV) : Option Bool := bnd (typV a) fun a => bnd (typV b) fun b => some (leq (a.toByteArray.data.toList.map UInt8.toNat) (b.toByteArray.data.toList.map UInt8.toNat))
noncomputable def eqVA (a b : AV) (σ : St) : Rs Bool := bnd (readV a σ) fun d => bnd (readV b σ) fun e => chk (shp d) (chk (shp e) (ok (pdEq d e) σ))
noncomputable def tupP : PyData -> Option (List PyData)
 | .tuple l => some l
 | _ => none
noncomputable def eqS (x : Str) (σ : St) : AV -> Rs Bool
 | .str y => ok (seq x y) σ
 | .none => ok false σ
 | _ => none
noncomputable def eqN (σ : St) : AV -> Rs Bool
 | .str _ => ok false σ
 | .none => ok true σ
 | _ => none
noncomputable def eqA (a b : AV) (σ : St) : Rs Bool := match a with
 | .str x => eqS x σ b
 | .none => eqN σ b
 | .int x => bnd (intV b) fun y => ok (ieq x y) σ
 | .ref i => eqVA (.ref i) b σ
 | _ => none
noncomputable def neA (a b : AV) (σ : St) : Rs Bool := match a with
 | .str x => bnd (strV b) fun y => ok (!seq x y) σ
 | .int x => bnd (intV b) fun y => ok (!ieq x y) σ
 | .ref i => bn2 (eqVA (.ref i) b σ) fun t σ => ok (!t) σ
 | _ => none
noncomputable def int2 {β : Type} (a b : AV) (f : Int -> Int -> Rs β) : Rs β := bnd (intV a) fun x => bnd (intV b) fun y => f x y
noncomputable def isA (a b : AV) (σ : St) : Rs Bool := match b with
 | .none => bnd (isNone a) fun t => ok t σ
 | .raw v => bnd (sameType a (.raw v)) fun t => ok t σ
 | _ => none
noncomputable def isNA (a b : AV) (σ : St) : Rs Bool := match b with
 | .none => bnd (isNone a) fun t => ok (!t) σ
 | .raw v => bnd (sameType a (.raw v)) fun t => ok (!t) σ
 | _ => none
noncomputable def inS (x : Str) (σ : St) : AV -> Rs Bool
 | .str y => bnd (oneV x.cps.toList) fun c => ok (inList c y.cps.toList) σ
 | .dat d => bnd (tupP d) fun l => bnd (strsOf l) fun ys => ok (memS x ys) σ
 | _ => none
noncomputable def inT (d : PyData) (σ : St) (b : AV) : Rs Bool := bnd (tupP d) fun l => bnd (refV b) fun i => bnd (lsAt σ i) fun k => chk (shp d) (chk (shp (.list k)) (ok (memP d k) σ))
noncomputable def inA (a b : AV) (σ : St) : Rs Bool := match a with
 | .str x => inS x σ b
 | .dat d => inT d σ b
 | _ => none
noncomputable def cmpA (op : CmpOp) (a b : AV) (σ : St) : Rs Bool := match op with
 | .Eq => eqA a b σ
 | .NotEq => neA a b σ
 | .Lt => int2 a b fun x y => ok (ilt x y) σ
 | .Gt => int2 a b fun x y => ok (ilt y x) σ
 | .LtE => int2 a b fun x y => ok (!ilt y x) σ
 | .GtE => int2 a b fun x y => ok (!ilt x y) σ
 | .Is => isA a b σ
 | .IsNot => isNA a b σ
 | .In => inA a b σ
 | .NotIn => bnd (strV a) fun x => bnd (strV b) fun y => bnd (oneV x.cps.toList) fun c => ok (!inList c y.cps.toList) σ
noncomputable def addL (a b : AV) (σ : St) : Rs AV := bnd (listOfV a σ) fun x => bnd (listOfV b σ) fun y => chk (fit x) (chk (fit y) (ok (.ref (len σ)) (σ ++ [.list (x ++ y)])))
noncomputable def addA (a b : AV) (σ : St) : Rs AV := match a with
 | .int x => bnd (intV b) fun y => ok (.int (x + y)) σ
 | .str x => bnd (strV b) fun y => chk (small (cat x y)) (ok (.str (cat x y)) σ)
 | a => addL a b σ
noncomputable def binA (op : Operator) (a b : AV) (σ : St) : Rs AV := match op with
 | .Add => addA a b σ
 | .Sub => int2 a b fun x y => ok (.int (x - y)) σ
 | .Mod => int2 a b fun x y => gd (ilt 0 y) (ok (.int (Int.fmod x y)) σ)
 | .FloorDiv => int2 a b fun x y => gd (ilt 0 y && ilt y 1000000) (ok (.int (Int.fdiv x y)) σ)
 | _ => none
noncomputable def handV : AV -> Bool
 | .raw (.builtin _) => false
 | .unk => false
 | _ => true
noncomputable def getK (r : Rec) (i d : Nat) (x : Str) (σ : St) : At -> Rs AV
 | .own => bnd (dictOfA σ d) fun l => bnd (look x l) fun w => gd (handV w) (ok w σ)
 | .prop f => bnd (dictOfA σ d) fun ι => bn2 (r.call f [.ref i] [] σ) fun w σ => gd (handV w) (ok w σ)
 | .meth _ => none
noncomputable def getA (T : Tp) (r : Rec) (v : AV) (x : Str) (σ : St) : Rs AV := bnd (refV v) fun i => bnd (instOf σ i) fun p => bnd (atOf T p.1 x) fun k => getK r i p.2 x σ k
noncomputable def isOwn : At -> Bool
 | .own => true
 | _ => false
noncomputable def setA (T : Tp) (v : AV) (x : Str) (w : AV) (σ : St) : Rs Unit := bnd (refV v) fun i => bnd (instOf σ i) fun p => bnd (atOf T p.1 x) fun k => gd (isOwn k) (bnd (dictOfA σ p.2) fun l => chk (Nat.ble (len (put x w l)) 900) (ok () (setNth σ p.2 (.dict (put x w l)))))
noncomputable def ceO : Option AO -> Option AV
 | some (.cell v) => some v
 | _ => none
noncomputable def tpO : Option AO -> Option (List AV)
 | some (.tuple v) => some v
 | _ => none
noncomputable def storeK (c : Cx) (x : Str) (v : AV) (σ : St) : NameKind -> Option St
 | .local => bnd (nsOf σ c.fid) fun l => some (setNth σ c.fid (.ns (put x v l)))
 | .cell => bnd (look x c.cells) fun i => bnd (ceO (nth σ i)) fun ι => some (setNth σ i (.cell v))
 | _ => none
noncomputable def storeL (c : Cx) (x : Str) (v : AV) (σ : St) : Option St := bnd (look x c.scope.names) fun k => storeK c x v σ k
noncomputable def onC {α : Type} (b i : Nat) (f : b = i -> α) (d : α) : α := if h : b = i then f h else d
noncomputable def nameOf (e : Expr) : Option Str := onC e.ctorIdx 23 (fun h => Expr.Name.elim e h fun x ι => some x) none
noncomputable def tupE (e : Expr) : Option (List Expr) := onC e.ctorIdx 25 (fun h => Expr.Tuple.elim e h fun es ι ι => some es) none
noncomputable def tg2 (t : Expr) : Option (Str × Str) := bnd (tupE t) fun es => bnd (twoV es) fun p => bnd (nameOf p.1) fun x => bnd (nameOf p.2) fun y => some (x, y)
noncomputable def dwR (f : AV -> AV -> Option St) (σ : St) (v : AV) : Option St := match v with
 | .dat d => bnd (tupP d) fun l => bnd (twoV l) fun p => f (ofP p.1) (ofP p.2)
 | .ref i => bnd (tpO (nth σ i)) fun l => bnd (twoV l) fun p => f p.1 p.2
 | _ => none
noncomputable def storeT (c : Cx) (t : Expr) (v : AV) (σ : St) : Option St := match nameOf t with
 | some x => storeL c x v σ
 | none => bnd (tg2 t) fun q => dwR (fun a b => bnd (storeL c q.1 a σ) fun σ => storeL c q.2 b σ) σ v
noncomputable def srcOf (vs : List AV) (ks : List (Str × AV)) : Src -> Option AV
 | .pos i => nth vs i
 | .kw x => look x ks
 | .dflt v => some (match v with | .none => .none | .bool b => .bool b | .int i _ => .int i | .str s _ => .str s | v => .raw v)
noncomputable def bindsA (vs : List AV) (ks : List (Str × AV)) : List (Str × Src) -> Option (List (Str × AV))
 | [] => some []
 | p :: r => bnd (srcOf vs ks p.2) fun v => bnd (bindsA vs ks r) fun l => some ((p.1, v) :: l)
noncomputable def sameKws : List Str -> List (Str × AV) -> Bool
 | [], [] => true
 | x :: r, p :: l => match seq x p.1 with | true => sameKws r l | false => false
 | _, _ => false
noncomputable def pickFn (n : Nat) (ks : List (Str × AV)) : List Fn -> Option Fn
 | [] => none
 | f :: r => match Nat.beq f.npos n with
  | true => (match sameKws f.kws ks with | true => some f | false => pickFn n ks r)
  | false => pickFn n ks r
noncomputable def isCompr (e : Expr) : Bool := Nat.beq e.ctorIdx 8 || (Nat.beq e.ctorIdx 9 || Nat.beq e.ctorIdx 10)
noncomputable def notRef : AV -> Bool
 | .ref _ => false
 | .raw (.ref _) => false
 | .dat _ => false
 | .unk => false
 | _ => true
noncomputable def kwNames : List Keyword -> Option (List Str)
 | [] => some []
 | ⟨some n, _, _⟩ :: r => bnd (kwNames r) fun l => some (n :: l)
 | ⟨none, _, _⟩ :: _ => none
noncomputable def kwVals : List Keyword -> List Expr
 | [] => []
 | ⟨_, v, _⟩ :: r => v :: kwVals r
noncomputable def zipS : List Str -> List AV -> List (Str × AV)
 | x :: r, v :: l => (x, v) :: zipS r l
 | _, _ => []
noncomputable def isStar (e : Expr) : Bool := Nat.beq e.ctorIdx 22
noncomputable def plainArgs : List Expr -> Bool
 | [] => true
 | e :: r => !isStar e && plainArgs r
noncomputable def s_append : Str := Zs "append"
noncomputable def s_extend : Str := Zs "extend"
noncomputable def s_pop : Str := Zs "pop"
noncomputable def s_remove : Str := Zs "remove"
noncomputable def s_read : Str := Zs "read"
noncomputable def s_lower : Str := Zs "lower"
noncomputable def s_replace : Str := Zs "replace"
noncomputable def s_join : Str := Zs "join"
noncomputable def s_index : Str := Zs "index"
noncomputable def s_search : Str := Zs "search"
noncomputable def s_items : Str := Zs "items"
noncomputable def s_setitem : Str := Zs "__setitem__"
noncomputable def s_delitem : Str := Zs "__delitem__"
inductive MK where
 | fn (f : Addr) (i : Nat)
 | read (f : Addr) (i d : Nat)
 | append (i : Nat)
 | extend (i : Nat)
 | pop (i : Nat)
 | remove (i : Nat)
 | lower (s : Str)
 | join (s : Str)
 | index (s : Str)
 | search (a : Addr)
noncomputable def findI (σ : St) (i d : Nat) (C : Addr) (x : Str) (f : Addr) : Option AO -> Option MK
 | some (.sdict _) => gd (seq x s_read && Nat.beq C 754) (some (.read f i d))
 | some (.dict l) => gd ((look x l).isNone) (some (.fn f i))
 | _ => none
noncomputable def findL (i : Nat) (x : Str) : Option MK := pk (seq x s_append) (some (.append i)) (pk (seq x s_extend) (some (.extend i)) (pk (seq x s_pop) (some (.pop i)) (gd (seq x s_remove) (some (.remove i)))))
noncomputable def findO (T : Tp) (σ : St) (i : Nat) (x : Str) : Option AO -> Option MK
 | some (.inst C d) => bnd (bnd (atOf T C x) mtA) fun f => findI σ i d C x f (nth σ d)
 | some (.list _) => findL i x
 | _ => none
noncomputable def findS (s x : Str) : Option MK := pk (seq x s_lower) (some (.lower s)) (pk (seq x s_join) (some (.join s)) (gd (seq x s_index) (some (.index s))))
noncomputable def findR (T : Tp) (x : Str) : Value -> Option MK
 | .ref a => bnd (nlook a T.srch) fun ι => gd (seq x s_search) (some (.search a))
 | _ => none
noncomputable def findM (T : Tp) (v : AV) (x : Str) (σ : St) : Option MK := match v with
 | .ref i => findO T σ i x (nth σ i)
 | .str s => findS s x
 | .raw v => findR T x v
 | _ => none
noncomputable def readL1 (d : Nat) (σ : St) : List Nat -> Rs AV
 | [] => ok (.str ⟨⟨[]⟩⟩) σ
 | c :: rest' => ok (.str ⟨⟨[c]⟩⟩) (setNth σ d (.sdict rest'))
noncomputable def readA (f : Addr) (i d : Nat) (σ : St) : Rs AV := gd (Nat.beq f 700) (bnd (instOf σ i) fun p => bnd (sdO (nth σ d)) fun rest => gd (Nat.beq p.1 754 && Nat.beq p.2 d) (readL1 d σ rest))
noncomputable def lowC (c : Nat) : Nat := match Nat.ble 65 c, Nat.ble c 90 with | true, true => Nat.add c 32 | _, _ => c
noncomputable def lowL : List Nat -> List Nat
 | [] => []
 | c :: l => lowC c :: lowL l
noncomputable def ascii : List Nat -> Bool
 | [] => true
 | c :: l => match Nat.blt c 128 with | true => ascii l | false => false
noncomputable def s_abc : Str := Zs "abc"
noncomputable def idx3 (x : Str) : Option Nat := pk (seq x (Zs "a")) (some 0) (pk (seq x (Zs "b")) (some 1) (gd (seq x (Zs "c")) (some 2)))
noncomputable def joinL (s : Str) : List Str -> Str
 | [] => ⟨⟨[]⟩⟩
 | [x] => x
 | x :: r => cat x (cat s (joinL s r))
noncomputable def lastP : List PyData -> Option (List PyData × PyData)
 | [] => none
 | [d] => some ([], d)
 | a :: b :: l => bnd (lastP (b :: l)) fun p => some (a :: p.1, p.2)
noncomputable def applyM (T : Tp) (r : Rec) (m : MK) (vs : List AV) (ks : List (Str × AV)) (σ : St) : Rs AV := match m with
 | .fn f i => r.call f (.ref i :: vs) ks σ
 | .read f i d => arg1 vs ks fun w => bnd (intV w) fun n => gd (ieq n (.ofNat 1)) (readA f i d σ)
 | .append i => arg1 vs ks fun w => bnd (frz w σ) fun p => bnd (lsO (nth p.2 i)) fun l => chk (fit l) (ok .none (setNth p.2 i (.list (l ++ [p.1]))))
 | .extend i => arg1 vs ks fun w => bnd (refV w) fun j => bnd (lsO (nth σ i)) fun l => bnd (lsO (nth σ j)) fun k => gd (!Nat.beq i j) (chk (fit l) (chk (fit k) (ok .none (setNth σ i (.list (l ++ k))))))
 | .pop i => arg0 vs ks (bnd (lsO (nth σ i)) fun l => bnd (lastP l) fun p => chk (fit l) (ok (ofP p.2) (setNth σ i (.list p.1))))
 | .remove i => arg1 vs ks fun w => bnd (tupV w) fun d => bnd (lsO (nth σ i)) fun l => bnd (remP (.tuple d) l) fun k => chk (fit l) (chk (shp (.tuple d)) (chk (shp (.list l)) (ok .none (setNth σ i (.list k)))))
 | .lower s => arg0 vs ks (gd (ascii s.cps.toList) (chk (small s) (ok (.str ⟨⟨lowL s.cps.toList⟩⟩) σ)))
 | .join s => arg1 vs ks fun w => bnd (refV w) fun i => bnd (lsO (nth σ i)) fun l => bnd (oneV l) fun d => bnd (strP d) fun x => chk (small s) (chk (small x) (ok (.str x) σ))
 | .index s => arg1 vs ks fun w => bnd (strV w) fun x => gd (seq s s_abc) (bnd (idx3 x) fun n => ok (.int (.ofNat n)) σ)
 | .search a => arg1 vs ks fun w => bnd (strV w) fun x => bnd (nlook a T.srch) fun l => bnd (look x l) fun b => pk b (ok (.ref (len σ)) (σ ++ [.junk])) (ok .none σ)
structure CaE where
 f : Expr
 as : List Expr
 ks : List Keyword
 p : Pos
structure AtE where
 o : Expr
 x : Str
 p : Pos
noncomputable def callE (e : Expr) : Option CaE := onC e.ctorIdx 16 (fun h => Expr.Call.elim e h fun f as ks p => some ⟨f, as, ks, p⟩) none
noncomputable def attE (e : Expr) : Option AtE := onC e.ctorIdx 20 (fun h => Expr.Attribute.elim e h fun o x p => some ⟨o, x, p⟩) none
noncomputable def slcE (e : Expr) : Option (Option Expr × Option Expr × Option Expr) := onC e.ctorIdx 26 (fun h => Expr.Slice.elim e h fun a b c ι => some (a, b, c)) none
noncomputable def isTupE (e : Expr) : Bool := (tupE e).isSome
noncomputable def isSuper (q : CaE) : Bool := isNil q.as && (isNil q.ks && (nameOf q.f).isSome)
noncomputable def notSuper (e : Expr) : Bool := match callE e with
 | none => true
 | some q => !isSuper q
noncomputable def notSet (e : Expr) : Bool := !Nat.beq e.ctorIdx 7
noncomputable def notSlice (e : Expr) : Bool := (slcE e).isNone
noncomputable def s_debug : Str := Zs "__debug__"
noncomputable def s_classdict : Str := Zs "__classdict__"
noncomputable def inpV (b : AV) (σ : St) : AV -> Rs AV
 | .int x => bnd (intV b) fun y => ok (.int (x + y)) σ
 | .str x => bnd (strV b) fun y => chk (small (cat x y)) (ok (.str (cat x y)) σ)
 | _ => none
noncomputable def isAdd : Operator -> Bool
 | .Add => true
 | _ => false
noncomputable def inpA (op : Operator) (a b : AV) (σ : St) : Rs AV := gd (isAdd op) (inpV b σ a)
noncomputable def isUnk : AV -> Bool
 | .unk => true
 | _ => false
noncomputable def cellA (σ : St) (i : Nat) : Rs AV := bnd (ceO (nth σ i)) fun v => gd (!isUnk v) (ok v σ)
noncomputable def nameK (T : Tp) (c : Cx) (x : Str) (σ : St) : NameKind -> Rs AV
 | .local => bnd (nsOf σ c.fid) fun l => bnd (look x l) fun v => gd (!isUnk v) (ok v σ)
 | .globalImplicit => bnd (look x T.glob) fun v => ok (.raw v) σ
 | .cell => bnd (look x c.cells) fun i => cellA σ i
 | .free => gd (!seq x s_classdict) (bnd (look x c.cells) fun i => cellA σ i)
 | _ => none
noncomputable def nameA (T : Tp) (c : Cx) (x : Str) (σ : St) : Rs AV := pk (seq x s_debug) (ok (.bool true) σ) (bnd (look x c.scope.names) fun k => nameK T c x σ k)
inductive SlK where
 | all
 | rev
 | upto (n : Nat)
noncomputable def conI : Const -> Option Int
 | .int i => some i
 | _ => none
noncomputable def conE (e : Expr) : Option Const := onC e.ctorIdx 19 (fun h => Expr.Constant.elim e h fun k ι ι => some k) none
noncomputable def isUSub : UnaryOp -> Bool
 | .USub => true
 | _ => false
noncomputable def uopE (e : Expr) : Option (UnaryOp × Expr) := onC e.ctorIdx 3 (fun h => Expr.UnaryOp.elim e h fun op x ι => some (op, x)) none
noncomputable def minus1 (e : Expr) : Bool := (bnd (uopE e) fun q => gd (isUSub q.1) (bnd (bnd (bnd (conE q.2) conI) natI) fun n => gd (Nat.beq n 1) (some ()))).isSome
noncomputable def slK1 : Option Expr -> Option SlK
 | none => some .all
 | some s => gd (minus1 s) (some .rev)
noncomputable def sliceK (e : Expr) : Option SlK := bnd (slcE e) fun q => gd q.1.isNone (match q.2.1 with
 | none => slK1 q.2.2
 | some n => gd q.2.2.isNone (bnd (bnd (bnd (conE n) conI) natI) fun n => some (.upto n)))
noncomputable def sliceAB (e : Expr) : Option (Expr × Expr) := bnd (slcE e) fun q => bnd q.1 fun a => bnd q.2.1 fun b => gd q.2.2.isNone (some (a, b))
noncomputable def takeN : Nat -> List Nat -> List Nat
 | 0, _ => []
 | _ + 1, [] => []
 | n + 1, x :: l => x :: takeN n l
noncomputable def dropN : Nat -> List Nat -> List Nat
 | 0, l => l
 | _ + 1, [] => []
 | n + 1, _ :: l => dropN n l
noncomputable def cutStr (i j : Nat) (s : Str) : Str := ⟨⟨takeN (j - i) (dropN i s.cps.toList)⟩⟩
noncomputable def revP : List PyData -> List PyData -> List PyData
 | [], a => a
 | x :: l, a => revP l (x :: a)
noncomputable def takeP : Nat -> List PyData -> List PyData
 | 0, _ => []
 | _ + 1, [] => []
 | n + 1, x :: l => x :: takeP n l
noncomputable def sliceL : SlK -> List PyData -> List PyData
 | .all, l => l
 | .rev, l => revP l []
 | .upto n, l => takeP n l
noncomputable def nthI {α : Type} (l : List α) : Int -> Option α
 | .ofNat n => nth l n
 | .negSucc _ => none
noncomputable def datL : PyData -> Option (List PyData)
 | .list l => some l
 | .tuple l => some l
 | _ => none
noncomputable def itemL (l : List PyData) (k : Int) (σ : St) : Rs AV := bnd (nthI l k) fun d => chk (fit l) (ok (ofP d) σ)
noncomputable def itemA (v : AV) (k : AV) (σ : St) : Rs AV := bnd (intV k) fun k => match v with
 | .ref i => bnd (lsAt σ i) fun l => itemL l k σ
 | .dat d => bnd (datL d) fun l => itemL l k σ
 | .str s => bnd (nthI s.cps.toList k) fun d => chk (small s) (ok (.str ⟨⟨[d]⟩⟩) σ)
 | _ => none
noncomputable def setI (l : List PyData) (k : Int) (d : PyData) : Option (List PyData) := match k with
 | .ofNat n => (match nth l n with | some _ => some (setNth l n d) | none => none)
 | .negSucc _ => none
noncomputable def cutV (m : Nat) : AV -> AV
 | .ref i => (match Nat.blt i m with | true => .ref i | false => .unk)
 | v => v
noncomputable def cutVs (m : Nat) : List AV -> List AV
 | [] => []
 | v :: l => cutV m v :: cutVs m l
noncomputable def cutN (m : Nat) : List (Str × AV) -> List (Str × AV)
 | [] => []
 | p :: l => (p.1, cutV m p.2) :: cutN m l
noncomputable def cutO (m : Nat) : AO -> AO
 | .ns l => .ns (cutN m l)
 | .inst C d => (match Nat.blt d m with | true => .inst C d | false => .junk)
 | .dict l => .dict (cutN m l)
 | .tuple l => .tuple (cutVs m l)
 | .cell v => .cell (cutV m v)
 | o => o
noncomputable def cutS (m : Nat) : Nat -> St -> St
 | 0, _ => []
 | _ + 1, [] => []
 | k + 1, o :: σ => cutO m o :: cutS m k σ
noncomputable def blurN (xs : List Str) (l : List (Str × AV)) : List (Str × AV) := match xs with
 | [] => l
 | x :: r => blurN r (put x .unk l)
noncomputable def blur (c : Cx) (xs : List Str) (σ : St) : St := match nsOf σ c.fid with
 | some l => setNth σ c.fid (.ns (blurN xs l))
 | none => σ
noncomputable def tgtNames (t : Expr) : List Str := match nameOf t with
 | some x => [x]
 | none => match tg2 t with
  | some q => [q.1, q.2]
  | none => []
noncomputable def stNames : Nat -> List Stmt -> List Str
 | 0, _ => []
 | _ + 1, [] => []
 | n + 1, s :: l => onC s.ctorIdx 5 (fun h => Stmt.Assign.elim s h fun ts ι ι => (match oneV ts with | some t => tgtNames t | none => [])) (onC s.ctorIdx 9 (fun h => Stmt.For.elim s h fun t ι b ι ι => tgtNames t ++ stNames n b)
  (onC s.ctorIdx 12 (fun h => Stmt.If.elim s h fun ι a b ι => stNames n a ++ stNames n b) (onC s.ctorIdx 11 (fun h => Stmt.While.elim s h fun ι b ι ι => stNames n b) []))) ++ stNames n l
noncomputable def addNew (xs : List Str) : List Str -> List Str
 | [] => xs
 | x :: l => addNew (match memS x xs with | true => xs | false => xs ++ [x]) l
noncomputable def evsA (r : Rec) (c : Cx) : List Expr -> St -> Rs (List AV)
 | [], σ => ok [] σ
 | e :: l, σ => bn2 (r.ev c e σ) fun v σ => bn2 (evsA r c l σ) fun vs σ => ok (v :: vs) σ
noncomputable def trsA (r : Rec) (c : Cx) (op : Bool) : List Expr -> St -> Rs Bool
 | [], σ => ok op σ
 | e :: l, σ => bn2 (r.tr c e σ) fun b σ => match op, b with
  | true, false => ok false σ
  | false, true => ok true σ
  | _, _ => trsA r c op l σ
noncomputable def exsA (r : Rec) (c : Cx) : List Stmt -> St -> Rs Fl
 | [], σ => ok .next σ
 | s :: l, σ => bn2 (r.ex c s σ) fun f σ => match f with
  | .next => exsA r c l σ
  | f => ok f σ
noncomputable def whA (r : Rec) (c : Cx) (t : Expr) (b : List Stmt) : Nat -> St -> Rs Fl
 | 0, _ => none
 | n + 1, σ => bn2 (r.tr c t σ) fun tv σ => match tv with
  | false => ok .next σ
  | true => bn2 (exsA r c b σ) fun f σ => match f with
   | .next => whA r c t b n σ
   | .cont => whA r c t b n σ
   | .brk => ok .next σ
   | .ret v => ok (.ret v) σ
noncomputable def forA (r : Rec) (c : Cx) (t : Expr) (b : List Stmt) (xs : List Str) (m : Nat) : List PyData -> St -> Rs Unit
 | [], σ => ok () σ
 | d :: l, σ => bnd (storeT c t (ofP d) σ) fun σ => bn2 (exsA r c b σ) fun f σ => match f with
  | .next => forA r c t b xs m l (blur c xs (cutS m m σ))
  | .cont => forA r c t b xs m l (blur c xs (cutS m m σ))
  | _ => none
noncomputable def rangeL (a : Int) (st : Int) : Nat -> List PyData
 | 0 => []
 | n + 1 => .int a :: rangeL (a + st) st n
noncomputable def natV (v : AV) : Option Nat := bnd (intV v) natI
noncomputable def nats : List AV -> Option (List Nat)
 | [] => some []
 | v :: l => bnd (natV v) fun n => bnd (nats l) fun r => some (n :: r)
noncomputable def rg3 (a b : Nat) : Nat -> Option (List PyData × Bool)
 | 0 => none
 | st + 1 => some (rangeL (.ofNat a) (.ofNat (st + 1)) (Nat.div (Nat.sub (Nat.add b st) a) (st + 1)), Nat.ble a 10000 && (Nat.ble b 10000 && Nat.ble st 10000))
noncomputable def rgN (a : Nat) (l : List Nat) : Option (List PyData × Bool) := pk (isNil l) (some (rangeL 0 1 a, Nat.ble a 10000)) (bnd (twoV l) fun p => rg3 a p.1 p.2)
noncomputable def rangeV (l : List AV) : Option (List PyData × Bool) := bnd (nats l) fun l => match l with
 | [] => none
 | a :: l => rgN a l
noncomputable def chars : List Nat -> List PyData
 | [] => []
 | c :: l => .str ⟨⟨[c]⟩⟩ :: chars l
noncomputable def iterA (v : AV) (σ : St) : Option (List PyData × Option Nat) := match v with
 | .ref i => bnd (lsO (nth σ i)) fun l => some (l, some i)
 | .str s => gd (ascii s.cps.toList) (some (chars s.cps.toList, none))
 | _ => none
noncomputable def lockA : Option Nat -> St -> St
 | none, σ => σ
 | some i, σ => setNth σ i .junk
noncomputable def unlockA : Option Nat -> List PyData -> St -> St
 | none, _, σ => σ
 | some i, l, σ => setNth σ i (.list l)
noncomputable def s_range : Str := Zs "range"
noncomputable def isItems (e : Expr) : Option (Expr × Pos × Pos) := bnd (callE e) fun q => gd (isNil q.as && isNil q.ks) (bnd (attE q.f) fun a => gd (seq a.x s_items) (some (a.o, a.p, q.p)))
noncomputable def isRange (e : Expr) : Option (List Expr) := bnd (callE e) fun q => gd (isNil q.ks) (bnd (nameOf q.f) fun f => gd (seq f s_range) (some q.as))
noncomputable def isCel : Option NameKind -> NameKind
 | some .cell => .cell
 | _ => .free
noncomputable def relN (c : Cx) : List (Str × NameKind) -> List (Str × NameKind)
 | [] => []
 | p :: l => pk (p.2 == .free) (p.1, isCel (look p.1 c.scope.names)) p :: relN c l
noncomputable def closA (c : Cx) : List (Str × NameKind) -> List (Str × Nat) -> Option (List (Str × Nat))
 | [], a => some a
 | p :: l, a => pk (p.2 == .free) (bnd (look p.1 c.cells) fun i => closA c l ((p.1, i) :: a)) (closA c l a)
noncomputable def ownC (k : Nat) : List (Str × NameKind) -> List (Str × Nat) -> List (Str × Nat)
 | [], a => a
 | p :: l, a => pk (p.2 == .cell) (ownC (Nat.succ k) l ((p.1, k) :: a)) (ownC k l a)
noncomputable def ownO : List (Str × NameKind) -> List AO
 | [] => []
 | p :: l => pk (p.2 == .cell) (.cell .unk :: ownO l) (ownO l)
noncomputable def ifsA (r : Rec) (c : Cx) : List Expr -> St -> Rs Bool
 | [], σ => ok true σ
 | e :: l, σ => bn2 (r.tr c e σ) fun b σ => pk b (ifsA r c l σ) (ok false σ)
noncomputable def blurC (c : Cx) (x : Str) (σ : St) : St := match storeL c x .unk σ with
 | some σ => σ
 | none => σ
noncomputable def compL (r : Rec) (c : Cx) (x : Str) (ifs : List Expr) (elt : Expr) (k m : Nat) : List PyData -> St -> Rs Unit
 | [], σ => ok () σ
 | d :: l, σ => bnd (storeL c x (ofP d) σ) fun σ => bn2 (ifsA r c ifs σ) fun b σ => pk b (bn2 (r.ev c elt σ) fun v σ => bnd (frz v σ) fun p => bnd (lsO (nth p.2 k)) fun acc => chk (fit acc) (compL r c x ifs elt k m l (blurC c x (cutS m m (setNth p.2 k (.list (acc ++ [p.1])))))))
  (compL r c x ifs elt k m l (blurC c x (cutS m m σ)))
noncomputable def compG (r : Rec) (c : Cx) (x : Str) (ifs : List Expr) (elt : Expr) (sc : Scope) (cl : List (Str × Nat)) (items : List PyData) (lk : Option Nat) (k : Nat) (σ : St) : Rs AV :=
 bn2 (compL r ⟨Nat.succ k, { sc with names := relN c sc.names }, ownC (Nat.succ (Nat.succ k)) sc.names cl⟩ x ifs elt k (Nat.add (Nat.succ (Nat.succ k)) (len (ownO sc.names))) items
  (blurC ⟨Nat.succ k, { sc with names := relN c sc.names }, ownC (Nat.succ (Nat.succ k)) sc.names cl⟩ x (σ ++ (.list [] :: .ns [] :: ownO sc.names)))) fun ι σ2 =>
  bnd (nsOf σ2 (Nat.succ k)) fun ι => ok (.ref k) (unlockA lk items (setNth σ2 (Nat.succ k) .junk))
noncomputable def isLoc : NameKind -> Bool
 | .local => true
 | _ => false
noncomputable def locOk (ns : List (Str × NameKind)) : List (Str × NameKind) -> Bool
 | [] => true
 | p :: l => (!(p.2 == .local) || (match look p.1 ns with | some k => isLoc k | none => false)) && locOk ns l
noncomputable def isFnK : ScopeKind -> Bool
 | .function => true
 | _ => false
noncomputable def compA (r : Rec) (c : Cx) (x : Str) (iter : Expr) (ifs : List Expr) (elt : Expr) (sc : Scope) (σ : St) : Rs AV :=
 bn2 (r.ev c iter σ) fun v σ => bnd (iterA v σ) fun p => bnd (closA c sc.names []) fun cl => chk (locOk sc.names sc.names && isFnK sc.kind) (compG r c x ifs elt sc cl p.1 p.2 (len σ) (lockA p.2 σ))
noncomputable def strN (s : String) : List Nat := s.toByteArray.data.toList.map UInt8.toNat
noncomputable def calm (σ : St) : Bool := (nsOf σ 0).isSome
noncomputable def lexD (σ : St) (i : Nat) : Option (List (Str × AV)) := bnd (instOf σ i) fun p => gd (Nat.beq p.1 889) (dictOfA σ p.2)
noncomputable def isLex (σ : St) (i : Nat) : Bool := !calm σ && (lexD σ i).isSome
structure NxB where
 s0 : Stmt
 t : Expr
 x : Str
 e : Expr
noncomputable def threeV {α : Type} : List α -> Option (α × α × α)
 | [] => none
 | a :: l => bnd (twoV l) fun p => some (a, p)
noncomputable def ifE (s : Stmt) : Option (Expr × List Stmt) := onC s.ctorIdx 12 (fun h => Stmt.If.elim s h fun t a b ι => gd (isNil b) (some (t, a))) none
noncomputable def raiE (s : Stmt) : Option Str := onC s.ctorIdx 16 (fun h => Stmt.Raise.elim s h fun e c ι => gd c.isNone (bnd e nameOf)) none
noncomputable def retE (s : Stmt) : Option Expr := onC s.ctorIdx 3 (fun h => Stmt.Return.elim s h fun e ι => e) none
noncomputable def bov (b : List Stmt) : Option NxB := bnd (threeV b) fun q => bnd (ifE q.2.1) fun i => bnd (oneV i.2) fun s => bnd (raiE s) fun x => bnd (retE q.2.2) fun e => some ⟨q.1, i.1, x, e⟩
noncomputable def isNext : Fl -> Bool
 | .next => true
 | _ => false
noncomputable def nextE (T : Tp) (c : Cx) (x : Str) (k : Nat) (σ : St) : Rs (Option Str) := bn2 (nameA T c x σ) fun q ι => bnd (typV q) fun f => gd (leq (strN f) (strN "StopIteration")) (ok none (setNth σ k .junk))
noncomputable def nextV (T : Tp) (r : Rec) (c : Cx) (σ : St) (q : NxB) : Rs (Option Str) := bn2 (r.ex c q.s0 σ) fun f σ1 => gd (isNext f) (bn2 (r.tr c q.t σ1) fun b σ2 => pk b (nextE T c q.x c.fid σ2) (bn2 (r.ev c q.e σ2) fun v σ3 => bnd (strV v) fun s => ok (some s) (setNth σ3 c.fid .junk)))
noncomputable def nextA (T : Tp) (r : Rec) (fn : Fn) (i : Nat) (σ : St) : Rs (Option Str) := gd (isLex σ i) (bnd (bindsA [.ref i] [] fn.binds) fun l => bnd (bov fn.body) fun q => nextV T r ⟨len σ, fn.fd.scope, []⟩ (σ ++ [.ns l]) q)
noncomputable def plainFn1 (fn : Fn) : Bool := Nat.beq fn.npos 1 && (isNil fn.kws && (fn.kwd.isNone && fn.cel.isNone))
noncomputable def wordsA (T : Tp) (r : Rec) (fn : Fn) (i m : Nat) : Nat -> List PyData -> St -> Rs (List PyData)
 | 0, _, _ => none
 | n + 1, acc, σ => bn2 (nextA T r fn i σ) fun v σ => match v with
  | none => ok acc (cutS m m σ)
  | some s => chk (fit acc) (wordsA T r fn i m n (acc ++ [.str s]) (cutS m m σ))
noncomputable def quotTab : List (Str × Str) := [(Zs "a", Zs "a"), (Zs "A", Zs "A"), (Zs "b", Zs "b"), (Zs "B", Zs "B"), (Zs "c", Zs "c"), (Zs "C", Zs "C"), (Zs "", Zs "''"), (Zs "it's", Zs "'it'\"'\"'s'"), (Zs "x y", Zs "'x y'")]
noncomputable def quots : List Str -> Option (List Str)
 | [] => some []
 | x :: l => bnd (look x quotTab) fun y => bnd (quots l) fun ys => some (y :: ys)
noncomputable def s_space : Str := Zs " "
noncomputable def joinFn (vs : List AV) (σ : St) : Rs AV := bnd (oneV vs) fun w => bnd (refV w) fun i => bnd (lsO (nth σ i)) fun l => bnd (strsOf l) fun xs => bnd (quots xs) fun ys => chk (fit l) (chk (small (joinL s_space ys)) (ok (.str (joinL s_space ys)) σ))
noncomputable def okArgs (C : Addr) (vs : List AV) (ks : List (Str × AV)) : Bool := !Nat.beq C 754 || (Nat.beq (len vs) 1 && isNil ks)
noncomputable def siO (l : List (Str × AV)) : Option Str := bnd (threeV l) fun q => gd (seq q.1.1 (Zs "_StringIO__newline") && (seq q.2.1.1 (Zs "_StringIO__buf") && seq q.2.2.1 (Zs "_StringIO__pos")))
 (bnd (strV q.1.2) fun ι => bnd (strV q.2.1.2) fun s => bnd (natV q.2.2.2) fun n => gd (Nat.beq n 0) (some s))
noncomputable def isNn : AV -> Bool
 | .none => true
 | _ => false
noncomputable def newE (C k : Nat) (σ : St) : Rs AV := pk (Nat.beq C 754) (bnd (dictOfA σ k) fun l => bnd (siO l) fun s => chk (small s) (ok (.ref (Nat.succ k)) (setNth σ k (.sdict s.cps.toList)))) (ok (.ref (Nat.succ k)) σ)
noncomputable def newA (T : Tp) (r : Rec) (C : Addr) (vs : List AV) (ks : List (Str × AV)) (σ : St) : Rs AV := gd (okArgs C vs ks) (bnd (nlook C T.cls) fun f =>
 bn2 (r.call f (.ref (Nat.succ (len σ)) :: vs) ks (σ ++ [.dict [], .inst C (len σ)])) fun v σ' => gd (isNn v) (newE C (len σ) σ'))
noncomputable def intP : PyData -> Option Int
 | .int i => some i
 | _ => none
noncomputable def pdLt : List PyData -> List PyData -> Option Bool
 | [], r => gd (isNil r) (some false)
 | _ :: _, [] => none
 | d :: l, e :: r => bnd (intP d) fun a => bnd (intP e) fun b => pk (ieq a b) (pdLt l r) (some (ilt a b))
noncomputable def hdI : List PyData -> Option Int
 | [] => none
 | a :: _ => intP a
noncomputable def allT : List PyData -> Bool
 | [] => true
 | d :: l => (bnd (tupP d) hdI).isSome && allT l
noncomputable def tupLt (l : List PyData) (i j : Nat) : Option Bool := bnd (bnd (nth l i) tupP) fun d => bnd (bnd (nth l j) tupP) fun e => pdLt d e
noncomputable def treeR (cmp : Nat -> Nat -> Option Bool) : KasT (Array Nat) -> Option (Array Nat)
 | .ret a => some a
 | .ask i j k => bnd (cmp i j) fun b => treeR cmp (k b)
noncomputable def picks (l : List PyData) : List Nat -> Option (List PyData)
 | [] => some []
 | i :: r => bnd (nth l i) fun d => bnd (picks l r) fun ds => some (d :: ds)
noncomputable def sortT (l : List PyData) : Option (List PyData) := gd (allT l) (bnd (treeR (tupLt l) (kas_sort (len l))) fun p => picks l p.toList)
noncomputable def lenA (vs : List AV) (σ : St) : Rs AV := bnd (oneV vs) fun v => match strV v with
 | some s => chk (small s) (ok (.int (.ofNat (len s.cps.toList))) σ)
 | none => bnd (listOfV v σ) fun l => chk (fit l) (ok (.int (.ofNat (len l))) σ)
noncomputable def minA (vs : List AV) (σ : St) : Rs AV := bnd (twoV vs) fun p => int2 p.1 p.2 fun a b => ok (.int (pk (ilt b a) b a)) σ
noncomputable def sorA (vs : List AV) (σ : St) : Rs AV := bnd (oneV vs) fun v => bnd (refV v) fun i => bnd (lsO (nth σ i)) fun l => bnd (sortT l) fun k => chk (Nat.ble (len l) 60) (chk (Nat.ble 2 (len l)) (ok (.ref (len σ)) (σ ++ [.list k])))
noncomputable def insA (vs : List AV) (σ : St) : Rs AV := bnd (twoV vs) fun p => bnd (strV p.1) fun ι => bnd (typV p.2) fun t => gd (leq (strN t) (strN "str")) (ok (.bool true) σ)
noncomputable def bltA (f : String) (vs : List AV) (σ : St) : Rs AV := pk (leq (strN f) (strN "len")) (lenA vs σ) (pk (leq (strN f) (strN "min")) (minA vs σ) (pk (leq (strN f) (strN "sorted")) (sorA vs σ) (gd (leq (strN f) (strN "isinstance")) (insA vs σ))))
noncomputable def typeOfA (v : AV) (σ : St) : Option Value := match v with
 | .str _ => some (.type "str")
 | .int _ => some (.type "int")
 | .ref i => bnd (lsO (nth σ i)) fun ι => some (.type "list")
 | _ => none
noncomputable def tyA (vs : List AV) (σ : St) : Rs AV := bnd (oneV vs) fun v => bnd (typeOfA v σ) fun t => ok (.raw t) σ
noncomputable def inA1 (vs : List AV) (σ : St) : Rs AV := bnd (oneV vs) fun v => bnd (intV v) fun i => ok (.int i) σ
noncomputable def liA (r : Rec) (T : Tp) (vs : List AV) (σ : St) : Rs AV := bnd (oneV vs) fun v => bnd (refV v) fun i => gd (isLex σ i) (bnd (nlook 886 T.fns) fun fs => bnd (oneV fs) fun fn =>
 bn2 (r.call 879 [.ref i] [] σ) fun v σ => bnd (refV v) fun j => gd (Nat.beq i j && plainFn1 fn) (bn2 (wordsA T r fn i (len σ) 1000 [] σ) fun l σ => chk (fit l) (ok (.ref (len σ)) (σ ++ [.list l]))))
noncomputable def typA (r : Rec) (T : Tp) (f : String) (vs : List AV) (σ : St) : Rs AV := pk (leq (strN f) (strN "type")) (tyA vs σ) (pk (leq (strN f) (strN "int")) (inA1 vs σ) (pk (leq (strN f) (strN "list")) (liA r T vs σ)
 (gd (leq (strN f) (strN "collections.deque")) (gd (isNil vs) (ok (.ref (len σ)) (σ ++ [.deq]))))))
noncomputable def conS : Const -> Option Str
 | .str s => some s
 | _ => none
noncomputable def strE (e : Expr) : Option Str := bnd (conE e) conS
structure BiE where
 l : Expr
 op : Operator
 r : Expr
noncomputable def binE (e : Expr) : Option BiE := onC e.ctorIdx 2 (fun h => Expr.BinOp.elim e h fun l op r ι => some ⟨l, op, r⟩) none
structure McE where
 o : Str
 x : Str
 as : List Expr
 ap : Pos
 p : Pos
noncomputable def mcE (e : Expr) : Option McE := bnd (callE e) fun q => gd (isNil q.ks) (bnd (attE q.f) fun a => bnd (nameOf a.o) fun o => some ⟨o, a.x, q.as, a.p, q.p⟩)
noncomputable def quotE (l q : Expr) : Option (Str × Str × Str × Str × Str) := bnd (binE l) fun b => gd (isAdd b.op) (bnd (strE b.l) fun a => bnd (mcE b.r) fun m => bnd (twoV m.as) fun p => bnd (strE p.1) fun y => bnd (strE p.2) fun z => bnd (strE q) fun b =>
 gd (seq m.x s_replace && Nat.beq m.ap.endLine m.p.line) (some (a, m.o, y, z, b)))
noncomputable def replW (x y z : Str) : Option Str := gd (seq y (Zs "'") && seq z (Zs "'\"'\"'")) (pk (seq x (Zs "it's")) (some (Zs "it'\"'\"'s")) (gd (seq x (Zs "x y")) (some (Zs "x y"))))
noncomputable def quotV (T : Tp) (c : Cx) (q : Str × Str × Str × Str × Str) (σ : St) : Rs AV := bnd (look q.2.1 c.scope.names) fun k => gd (isLoc k) (bnd (nsOf σ c.fid) fun l => bnd (look q.2.1 l) fun v => bnd (strV v) fun s => bnd (replW s q.2.2.1 q.2.2.2.1) fun t =>
 chk (small (cat q.1 t)) (chk (small (cat (cat q.1 t) q.2.2.2.2)) (chk (!seq q.2.1 s_debug) (ok (.str (cat (cat q.1 t) q.2.2.2.2)) σ))))
noncomputable def argsA (r : Rec) (c : Cx) (as : List Expr) (kws : List Keyword) (f : List AV -> List (Str × AV) -> St -> Rs AV) (σ : St) : Rs AV := bn2 (evsA r c as σ) fun vs σ => bnd (kwNames kws) fun ns => bn2 (evsA r c (kwVals kws) σ) fun ks σ => f vs (zipS ns ks) σ
noncomputable def callRA (T : Tp) (r : Rec) (c : Cx) (a : Addr) (as : List Expr) (kws : List Keyword) (σ : St) : Rs AV := match nlook a T.fns with
 | some fs => gd (!isNil fs) (argsA r c as kws (r.call a) σ)
 | none => match nlook a T.cls with
  | some _ => argsA r c as kws (newA T r a) σ
  | none => gd (Nat.beq a 909 && isNil kws) (bn2 (evsA r c as σ) fun vs σ => applyM T r (.search 206) vs [] σ)
noncomputable def callVA (T : Tp) (r : Rec) (c : Cx) (as : List Expr) (kws : List Keyword) (σ : St) : Value -> Rs AV
 | .ref a => callRA T r c a as kws σ
 | .builtin f => gd (isNil kws) (bn2 (evsA r c as σ) fun vs σ => bltA f vs σ)
 | .type f => gd (isNil kws) (bn2 (evsA r c as σ) fun vs σ => typA r T f vs σ)
 | _ => none
noncomputable def rwV : AV -> Option Value
 | .raw v => some v
 | _ => none
noncomputable def callNA (T : Tp) (r : Rec) (c : Cx) (f : Str) (as : List Expr) (kws : List Keyword) (σ : St) : Rs AV := bn2 (nameA T c f σ) fun v σ => bnd (rwV v) fun v => callVA T r c as kws σ v
noncomputable def conA (σ : St) : Const -> Rs AV
 | .none => ok .none σ
 | .bool b => ok (.bool b) σ
 | .int i => ok (.int i) σ
 | .str s => ok (.str s) σ
 | _ => none
noncomputable def cmpE (r : Rec) (c : Cx) (l : Expr) (op : CmpOp) (q : Expr) (σ : St) : Rs Bool := gd (notSet q) (bn2 (r.ev c l σ) fun a σ => bn2 (r.ev c q σ) fun b σ => cmpA op a b σ)
noncomputable def bin2 (r : Rec) (c : Cx) (l : Expr) (op : Operator) (q : Expr) (σ : St) : Rs AV := bn2 (r.ev c l σ) fun a σ => bn2 (r.ev c q σ) fun b σ => binA op a b σ
noncomputable def binX (T : Tp) (r : Rec) (c : Cx) (l : Expr) (op : Operator) (q : Expr) (σ : St) : Rs AV := match quotE l q with
 | some t => pk (isAdd op) (quotV T c t σ) (bin2 r c l op q σ)
 | none => bin2 r c l op q σ
noncomputable def tupA (vs : List AV) (σ : St) : Rs AV := match toPs vs with
 | some ds => ok (.dat (.tuple ds)) σ
 | none => ok (.ref (len σ)) (σ ++ [.tuple vs])
noncomputable def cutA (r : Rec) (c : Cx) (o a b : Expr) (σ : St) : Rs AV := bn2 (r.ev c o σ) fun v σ => bn2 (r.ev c a σ) fun x σ => bn2 (r.ev c b σ) fun y σ => bnd (strV v) fun s => bnd (natV x) fun i => bnd (natV y) fun j => chk (small s) (ok (.str (cutStr i j s)) σ)
noncomputable def itmA (r : Rec) (c : Cx) (o k : Expr) (σ : St) : Rs AV := bn2 (r.ev c o σ) fun v σ => bn2 (r.ev c k σ) fun k σ => itemA v k σ
noncomputable def slsA (r : Rec) (c : Cx) (o : Expr) (sk : SlK) (σ : St) : Rs AV := bn2 (r.ev c o σ) fun v σ => bnd (listOfV v σ) fun l => chk (fit l) (ok (.ref (len σ)) (σ ++ [.list (sliceL sk l)]))
noncomputable def subA (r : Rec) (c : Cx) (o k : Expr) (σ : St) : Rs AV := match sliceK k with
 | some sk => slsA r c o sk σ
 | none => match sliceAB k with
  | some ab => cutA r c o ab.1 ab.2 σ
  | none => gd (notSlice k) (itmA r c o k σ)
structure GnE where
 x : Str
 it : Expr
 ifs : List Expr
noncomputable def genG (g : Comprehension) : Option GnE := gd (ieq g.is_async (.ofNat 0)) (bnd (nameOf g.target) fun x => some ⟨x, g.iter, g.ifs⟩)
noncomputable def cmpX (r : Rec) (c : Cx) (elt : Expr) (gs : List Comprehension) (sc : Scope) (σ : St) : Rs AV := bnd (bnd (oneV gs) genG) fun g => gd (Nat.ble (len g.ifs) 1 && notSet g.it) (compA r c g.x g.it g.ifs elt sc σ)
noncomputable def metA (T : Tp) (r : Rec) (c : Cx) (a : AtE) (as : List Expr) (kws : List Keyword) (p : Pos) (σ : St) : Rs AV := gd (notSuper a.o && (Nat.beq a.p.endLine p.line && (Nat.blt (len as) 10 && Nat.blt (len kws) 10)))
 (bn2 (r.ev c a.o σ) fun v σ => bnd (findM T v a.x σ) fun m => argsA r c as kws (applyM T r m) σ)
noncomputable def calX (T : Tp) (r : Rec) (c : Cx) (f : Expr) (as : List Expr) (kws : List Keyword) (p : Pos) (σ : St) : Rs AV := gd (plainArgs as) (match attE f with
 | some a => metA T r c a as kws p σ
 | none => bnd (nameOf f) fun f => callNA T r c f as kws σ)
noncomputable def evA (T : Tp) (r : Rec) (c : Cx) (e : Expr) (σ : St) : Rs AV := match e with
 | .Constant k _ _ => conA σ k
 | .Name x _ => nameA T c x σ
 | .Attribute o x _ => gd (notSuper o) (bn2 (r.ev c o σ) fun v σ => getA T r v x σ)
 | .Compare l ops qs _ => bnd (oneV ops) fun op => bnd (oneV qs) fun q => bn2 (cmpE r c l op q σ) fun t σ => ok (.bool t) σ
 | .BinOp l op q _ => binX T r c l op q σ
 | .IfExp t a b _ => bn2 (r.tr c t σ) fun t σ => pk t (r.ev c a σ) (r.ev c b σ)
 | .Tuple es _ _ => gd (plainArgs es) (bn2 (evsA r c es σ) fun vs σ => chk (fit vs) (tupA vs σ))
 | .List es _ => gd (plainArgs es) (bn2 (evsA r c es σ) fun vs σ => bnd (frzs vs σ) fun p => chk (fit p.1) (ok (.ref (len p.2)) (p.2 ++ [.list p.1])))
 | .UnaryOp op x _ => gd (isUSub op) (bn2 (r.ev c x σ) fun v σ => bnd (intV v) fun i => ok (.int (-i)) σ)
 | .Subscript o k _ => subA r c o k σ
 | .ListComp elt gs sc _ => cmpX r c elt gs sc σ
 | .Call f as kws p => calX T r c f as kws p σ
 | _ => none
noncomputable def genE (e : Expr) : Bool := !(Nat.beq e.ctorIdx 3 || (Nat.beq e.ctorIdx 0 || (Nat.beq e.ctorIdx 5 || Nat.beq e.ctorIdx 15)))
noncomputable def isNotO : UnaryOp -> Bool
 | .Not => true
 | _ => false
noncomputable def isAndO : BoolOp -> Bool
 | .And => true
 | .Or => false
noncomputable def trA (T : Tp) (r : Rec) (c : Cx) (e : Expr) (σ : St) : Rs Bool := match e with
 | .UnaryOp op x _ => gd (isNotO op) (bn2 (r.tr c x σ) fun b σ => ok (!b) σ)
 | .BoolOp op es _ => trsA r c (isAndO op) es σ
 | .Compare l ops qs _ => bnd (oneV ops) fun op => bnd (oneV qs) fun q => cmpE r c l op q σ
 | e => gd (genE e) (bn2 (r.ev c e σ) fun v σ => truthA v σ)
noncomputable def tryA (i j : Nat) (d : PyData) (l : List PyData) (σ : St) : Option (List PyData) -> Rs Fl
 | some k => ok .next (setNth σ i (.list k))
 | none => bnd (lsO (nth σ j)) fun m => chk (fit m) (ok .next (setNth σ j (.list (m ++ [d]))))
noncomputable def delA (T : Tp) (r : Rec) (v k : AV) (σ : St) : Rs Unit := bnd (refV v) fun i => bnd (instOf σ i) fun p => bnd (dictOfA σ p.2) fun ι => bnd (bnd (atOf T p.1 s_delitem) mtA) fun f => bn2 (r.call f [.ref i, k] [] σ) fun ι σ => ok () σ
noncomputable def setI1 (i : Nat) (k w : AV) (σ : St) : Rs Unit := bnd (intV k) fun k => bnd (frz w σ) fun p => bnd (lsO (nth p.2 i)) fun l => bnd (setI l k p.1) fun l' => chk (fit l) (ok () (setNth p.2 i (.list l')))
noncomputable def setO1 (T : Tp) (r : Rec) (i : Nat) (k w : AV) (σ : St) : Option AO -> Rs Unit
 | some (.inst C d) => bnd (dictOfA σ d) fun ι => bnd (bnd (atOf T C s_setitem) mtA) fun f => bn2 (r.call f [.ref i, k, w] [] σ) fun ι σ => ok () σ
 | some (.list _) => setI1 i k w σ
 | _ => none
noncomputable def setSubA (T : Tp) (r : Rec) (v k : AV) (w : AV) (σ : St) : Rs Unit := bnd (refV v) fun i => setO1 T r i k w σ (nth σ i)
noncomputable def setAllA (v w : AV) (σ : St) : Rs Unit := bnd (refV v) fun i => bnd (refV w) fun j => bnd (lsO (nth σ i)) fun l => bnd (lsO (nth σ j)) fun k => gd (!Nat.beq i j) (chk (fit l) (chk (fit k) (ok () (setNth σ i (.list k)))))
noncomputable def loopN (t : Expr) (b : List Stmt) : List Str := addNew [] (tgtNames t ++ stNames 100 b)
noncomputable def forR (T : Tp) (r : Rec) (c : Cx) (t : Expr) (as : List Expr) (b : List Stmt) (σ : St) : Rs Fl := gd (plainArgs as) (bn2 (nameA T c s_range σ) fun v σ => bnd (typV v) fun f => gd (leq (strN f) (strN "range"))
 (bn2 (evsA r c as σ) fun vs σ => bnd (rangeV vs) fun l => chk l.2 (bn2 (forA r c t b (loopN t b) (len σ) l.1 (blur c (loopN t b) σ)) fun ι σ => ok .next σ)))
noncomputable def forI (r : Rec) (c : Cx) (q : Expr × Pos × Pos) (σ : St) : Rs Fl := gd (notSuper q.1 && Nat.beq q.2.1.endLine q.2.2.line) (bn2 (r.ev c q.1 σ) fun v σ => bnd (refV v) fun i => bnd (dictOfA σ i) fun l => gd (isNil l) (ok .next σ))
noncomputable def forL (r : Rec) (c : Cx) (t it : Expr) (b : List Stmt) (σ : St) : Rs Fl := bn2 (r.ev c it σ) fun v σ => bnd (iterA v σ) fun p => chk (fit p.1) (bn2 (forA r c t b (loopN t b) (len σ) p.1 (blur c (loopN t b) (lockA p.2 σ))) fun ι σ => ok .next (unlockA p.2 p.1 σ))
noncomputable def forSt (T : Tp) (r : Rec) (c : Cx) (t it : Expr) (b : List Stmt) (σ : St) : Rs Fl := match isRange it with
 | some as => forR T r c t as b σ
 | none => match isItems it with
  | some q => forI r c q σ
  | none => forL r c t it b σ
noncomputable def trySt (T : Tp) (c : Cx) (o x y ex o2 x2 y2 : Str) (ap p ap2 p2 : Pos) (σ : St) : Rs Fl := gd (seq x s_remove && (seq x2 s_append && (seq y y2 && (Nat.beq ap.endLine p.line && (Nat.beq ap2.endLine p2.line && !calm σ)))))
 (bn2 (nameA T c ex σ) fun q ι => bnd (typV q) fun f => gd (leq (strN f) (strN "ValueError")) (bn2 (nameA T c o σ) fun v ι => bn2 (nameA T c o2 σ) fun v2 ι => bn2 (nameA T c y σ) fun w ι => bnd (refV v) fun i => bnd (refV v2) fun j => bnd (tupV w) fun d => bnd (lsO (nth σ i)) fun l => bnd (lsO (nth σ j)) fun ι =>
  chk (fit l) (chk (shp (.tuple d)) (chk (shp (.list l)) (tryA i j (.tuple d) l σ (remP (.tuple d) l))))))
noncomputable def expE (s : Stmt) : Option Expr := onC s.ctorIdx 24 (fun h => Stmt.Expr.elim s h fun e ι => some e) none
noncomputable def mc1 (s : Stmt) : Option (McE × Str) := bnd (bnd (expE s) mcE) fun m => bnd (oneV m.as) fun w => bnd (nameOf w) fun y => some (m, y)
structure HdE where
 ex : Str
 m : McE
 y : Str
noncomputable def hdE : ExceptHandler -> Option HdE
 | .ExceptHandler t n b _ => gd n.isNone (bnd (bnd t nameOf) fun ex => bnd (bnd (oneV b) mc1) fun q => some ⟨ex, q.1, q.2⟩)
noncomputable def tryX (T : Tp) (c : Cx) (b : List Stmt) (hs : List ExceptHandler) (σ : St) : Rs Fl := bnd (bnd (oneV b) mc1) fun m => bnd (bnd (oneV hs) hdE) fun q => trySt T c m.1.o m.1.x m.2 q.ex q.m.o q.m.x q.y m.1.ap m.1.p q.m.ap q.m.p σ
noncomputable def subSt (T : Tp) (r : Rec) (c : Cx) (o k e : Expr) (σ : St) : Rs Fl := bn2 (r.ev c e σ) fun w σ => bn2 (r.ev c o σ) fun v σ => (match sliceK k with
 | some .all => bn2 (setAllA v w σ) fun ι σ => ok .next σ
 | some _ => none
 | none => gd (notSlice k) (bn2 (r.ev c k σ) fun k σ => bn2 (setSubA T r v k w σ) fun ι σ => ok .next σ))
noncomputable def lcE (e : Expr) : Option (Expr × GnE × Scope) := onC e.ctorIdx 8 (fun h => Expr.ListComp.elim e h fun elt gs sc ι => bnd (bnd (oneV gs) genG) fun g => some (elt, g, sc)) none
noncomputable def asE (r : Rec) (c : Cx) (e : Expr) (f : AV -> St -> Rs Fl) (σ : St) : Rs Fl := gd (!isCompr e) (bn2 (r.ev c e σ) f)
noncomputable def asN (r : Rec) (c : Cx) (x : Str) (e : Expr) (σ : St) : Rs Fl := match lcE e with
 | some q => gd (Nat.ble (len q.2.1.ifs) 1 && notSet q.2.1.it) (bn2 (compA r c q.2.1.x q.2.1.it q.2.1.ifs q.1 q.2.2 σ) fun v σ => bnd (storeL c x v σ) fun σ => ok .next σ)
 | none => asE r c e (fun v σ => bnd (storeL c x v σ) fun σ => ok .next σ) σ
noncomputable def asgA (T : Tp) (r : Rec) (c : Cx) (e : Expr) (σ : St) (t : Expr) : Rs Fl := match t with
 | .Attribute o x _ => asE r c e (fun v σ => bn2 (r.ev c o σ) fun w σ => bn2 (setA T w x v σ) fun ι σ => ok .next σ) σ
 | .Subscript o k _ => subSt T r c o k e σ
 | .Name x _ => asN r c x e σ
 | .Tuple _ _ _ => gd (!isTupE e) (asE r c e (fun v σ => bnd (storeT c t v σ) fun σ => ok .next σ) σ)
 | _ => none
noncomputable def sbE (e : Expr) : Option (Expr × Expr) := onC e.ctorIdx 21 (fun h => Expr.Subscript.elim e h fun o k ι => some (o, k)) none
noncomputable def augA (T : Tp) (r : Rec) (c : Cx) (q : AtE) (op : Operator) (e : Expr) (σ : St) : Rs Fl := bn2 (r.ev c q.o σ) fun w σ => bn2 (getA T r w q.x σ) fun old σ => bn2 (r.ev c e σ) fun v σ =>
 bn2 (inpA op old v σ) fun n σ => bn2 (setA T w q.x n σ) fun ι σ => ok .next σ
noncomputable def exA (T : Tp) (r : Rec) (c : Cx) (s : Stmt) (σ : St) : Rs Fl := match s with
 | .Pass _ => ok .next σ
 | .Break _ => ok .brk σ
 | .Continue _ => ok .cont σ
 | .Return e _ => (match e with
  | none => ok (.ret .none) σ
  | some e => bn2 (r.ev c e σ) fun v σ => ok (.ret v) σ)
 | .Expr e _ => asE r c e (fun v σ => gd (notRef v) (ok .next σ)) σ
 | .Assign ts e _ => bnd (oneV ts) fun t => asgA T r c e σ t
 | .AugAssign t op e _ => bnd (attE t) fun q => augA T r c q op e σ
 | .Delete ts _ => bnd (bnd (oneV ts) sbE) fun q => gd (notSlice q.2) (bn2 (r.ev c q.1 σ) fun v σ => bn2 (r.ev c q.2 σ) fun k σ => bn2 (delA T r v k σ) fun ι σ => ok .next σ)
 | .If t a b _ => bn2 (r.tr c t σ) fun t σ => pk t (exsA r c a σ) (exsA r c b σ)
 | .While t b e _ => gd (isNil e) (whA r c t b 1000 σ)
 | .For t it b e _ => gd (isNil e && notSet it) (forSt T r c t it b σ)
 | .Try b hs e f _ => gd (isNil e && isNil f) (tryX T c b hs σ)
 | _ => none
noncomputable def delN (x : Str) : List (Str × AV) -> List (Str × AV)
 | [] => []
 | p :: l => match seq x p.1 with | true => delN x l | false => p :: delN x l
noncomputable def bodyA (r : Rec) (fn : Fn) (l : List (Str × AV)) (σ : St) : Rs Fl := match fn.kwd with
 | none => (match fn.cel with
  | none => exsA r ⟨len σ, fn.fd.scope, []⟩ fn.body (σ ++ [.ns l])
  | some x => bnd (look x l) fun v => exsA r ⟨len σ, fn.fd.scope, [(x, Nat.succ (len σ))]⟩ fn.body (σ ++ [.ns (delN x l), .cell v]))
 | some x => gd fn.cel.isNone (exsA r ⟨Nat.succ (len σ), fn.fd.scope, []⟩ fn.body (σ ++ [.dict [], .ns (l ++ [(x, .ref (len σ))])]))
noncomputable def flV : Fl -> Option AV
 | .ret v => some v
 | .next => some .none
 | _ => none
noncomputable def frAt (fn : Fn) (n : Nat) : Nat := match fn.kwd with
 | none => n
 | some _ => Nat.succ n
noncomputable def callA (T : Tp) (r : Rec) (f : Addr) (vs : List AV) (ks : List (Str × AV)) (σ : St) : Rs AV := pk (Nat.beq f 908) (gd (isNil ks) (bnd (nlook 908 T.fns) fun ι => joinFn vs σ))
 (bnd (nlook f T.fns) fun fs => bnd (pickFn (len vs) ks fs) fun fn => bnd (bindsA vs ks fn.binds) fun l => bn2 (bodyA r fn l σ) fun fl σ' => bnd (flV fl) fun v => ok v (setNth σ' (frAt fn (len σ)) .junk))
noncomputable def step (T : Tp) (r : Rec) : Rec := ⟨evA T r, trA T r, exA T r, callA T r⟩
noncomputable def rec0 : Rec := ⟨fun ι ι ι => none, fun ι ι ι => none, fun ι ι ι => none, fun ι ι ι ι => none⟩
noncomputable def run (T : Tp) : Nat -> Rec
 | 0 => rec0
 | n + 1 => step T (run T n)
theorem le_c {x a b : Nat} (h : x <= a) (e : Nat.ble a b = true) : x <= b := Nat.le_trans h (Nat.le_of_ble_eq_true e)
theorem lt_c {x a b : Nat} (h : x <= a) (e : Nat.blt a b = true) : x < b := Nat.lt_of_le_of_lt h (Nat.le_of_ble_eq_true e)
theorem le_e {x y a b : Nat} (h : x <= y) (k : y <= a) (e : Nat.ble a b = true) : x <= b := le_c (Nat.le_trans h k) e
theorem le_q {x y a b : Nat} (h : x = y) (k : y <= a) (e : Nat.ble a b = true) : x <= b := by rw [h]; exact le_c k e
theorem le_d {x y a b : Nat} (h : x + y <= a) (e : Nat.ble a b = true) : x <= b := le_c (Nat.le_trans (Nat.le_add_right _ _) h) e
theorem le_s {x y a : Nat} (h : x + (y + 1) <= a) : x + (0 + 1) + y <= a := by omega
theorem le_t {x y a : Nat} (h : x + (y + 1) <= a) : x + y <= a := Nat.le_of_succ_le h
theorem le_0 {x a b : Nat} (h : x <= a) (e : Nat.ble a b = true) : 0 + x <= b := by rw [Nat.zero_add]; exact le_c h e
theorem le_2 {x y a b c : Nat} (h : x <= a) (k : y <= b) (e : Nat.ble (a + b) c = true) : x + y <= c := le_c (Nat.add_le_add h k) e
theorem rm_1 {x y c a : Nat} (h : x + y < c) (e : Nat.ble a y = true) : x + a < c := Nat.lt_of_le_of_lt (Nat.add_le_add_left (Nat.le_of_ble_eq_true e) x) h
theorem rm_0 {x y c : Nat} (h : x + y < c) : x < c := Nat.lt_of_le_of_lt (Nat.le_add_right _ _) h
theorem rm_2 {x y c a b : Nat} (h : x + y < c) (e : Nat.ble (a + b) y = true) : x + a + b < c := by rw [Nat.add_assoc]; exact rm_1 h e
theorem nb_lt {x a : Nat} (h : x <= a) (e : Nat.ble a 9223372036854775807 = true) : (x : Int) < 2 ^ 63 := by have := Nat.le_of_ble_eq_true e; omega
end
section
noncomputable abbrev pw : Program := PySem.Challenge.pw_of0116_01
noncomputable def noStmt : Stmt := .Pass ⟨0, 0, 0, 0⟩
noncomputable def stTop (i : Nat) : Stmt := (nth pw.main.body i).getD noStmt
noncomputable def stMe (i j : Nat) : Stmt := onC (stTop i).ctorIdx 2 (fun h => Stmt.ClassDef.elim (stTop i) h fun ι ι ι b ι ι ι ι ι ι ι => (nth b j).getD noStmt) noStmt
noncomputable def mkFd (st : Stmt) (q : Str) (dV : Value) (cd : Addr) (pm : Str) (pt : Nat) : FuncData := onC st.ctorIdx 0 (fun h => Stmt.FunctionDef.elim st h fun n a b ι ι ι sc ι ι ι => { name := n, qualname := q, params := a, body := .stmts b, scope := sc, globals := 3, closure := [], defaults := dV, kwdefaults := .none, doc := .none, pyModule := .str pm pt, annotations := none, code := .ref cd, closureTuple := .none, builtins := 0 }) default
noncomputable def bodyOf (st : Stmt) : List Stmt := onC st.ctorIdx 0 (fun h => Stmt.FunctionDef.elim st h fun ι ι b ι ι ι ι ι ι ι => b) []
noncomputable def fd82 : FuncData := mkFd (stMe 8 0) (Zs "Headers.__init__") (.ref 75) 81 (Zs "cpy313.wsgiref.headers") 331
noncomputable def fn82 : Fn := ⟨fd82, bodyOf (stMe 8 0), 2, [], [(Zs "self", .pos 0), (Zs "headers", .pos 1)], none, none⟩
noncomputable def fd89 : FuncData := mkFd (stMe 8 1) (Zs "Headers._convert_string_type") (.none) 88 (Zs "cpy313.wsgiref.headers") 331
noncomputable def fn89 : Fn := ⟨fd89, bodyOf (stMe 8 1), 2, [Zs "name"], [(Zs "self", .pos 0), (Zs "value", .pos 1), (Zs "name", .kw (Zs "name"))], none, none⟩
noncomputable def fd103 : FuncData := mkFd (stMe 8 3) (Zs "Headers.__setitem__") (.none) 102 (Zs "cpy313.wsgiref.headers") 331
noncomputable def fn103 : Fn := ⟨fd103, bodyOf (stMe 8 3), 3, [], [(Zs "self", .pos 0), (Zs "name", .pos 1), (Zs "val", .pos 2)], none, none⟩
noncomputable def fd108 : FuncData := mkFd (stMe 8 4) (Zs "Headers.__delitem__") (.none) 107 (Zs "cpy313.wsgiref.headers") 331
noncomputable def fn108 : Fn := ⟨fd108, bodyOf (stMe 8 4), 2, [], [(Zs "self", .pos 0), (Zs "name", .pos 1)], none, some (Zs "name")⟩
noncomputable def fd154 : FuncData := mkFd (stMe 8 11) (Zs "Headers.items") (.none) 153 (Zs "cpy313.wsgiref.headers") 331
noncomputable def fn154 : Fn := ⟨fd154, bodyOf (stMe 8 11), 1, [], [(Zs "self", .pos 0)], none, none⟩
noncomputable def fd187 : FuncData := mkFd (stMe 8 16) (Zs "Headers.add_header") (.none) 186 (Zs "cpy313.wsgiref.headers") 331
noncomputable def fn187 : Fn := ⟨fd187, bodyOf (stMe 8 16), 3, [], [(Zs "self", .pos 0), (Zs "_name", .pos 1), (Zs "_value", .pos 2)], some (Zs "_params"), none⟩
noncomputable def fd201 : FuncData := mkFd (stTop 10) (Zs "unorderable_list_difference") (.none) 200 (Zs "cpy313.unittest.util") 596
noncomputable def fn201 : Fn := ⟨fd201, bodyOf (stTop 10), 2, [], [(Zs "expected", .pos 0), (Zs "actual", .pos 1)], none, none⟩
noncomputable def fd220 : FuncData := mkFd (stTop 14) (Zs "_index") (.none) 219 (Zs "io") 648
noncomputable def fn220 : Fn := ⟨fd220, bodyOf (stTop 14), 2, [], [(Zs "n", .pos 0), (Zs "what", .pos 1)], none, none⟩
noncomputable def fd524 : FuncData := mkFd (stMe 20 1) (Zs "StringIO.__init__") (.ref 517) 523 (Zs "io") 648
noncomputable def fn524 : Fn := ⟨fd524, bodyOf (stMe 20 1), 2, [], [(Zs "self", .pos 0), (Zs "initial_value", .pos 1), (Zs "newline", .dflt (.str (Zs "\n") 1033))], none, none⟩
noncomputable def fd531 : FuncData := mkFd (stMe 20 2) (Zs "StringIO.__translated") (.none) 530 (Zs "io") 648
noncomputable def fn531 : Fn := ⟨fd531, bodyOf (stMe 20 2), 2, [], [(Zs "self", .pos 0), (Zs "s", .pos 1)], none, none⟩
noncomputable def fd538 : FuncData := mkFd (stMe 20 3) (Zs "StringIO.__check") (.none) 537 (Zs "io") 648
noncomputable def fn538 : Fn := ⟨fd538, bodyOf (stMe 20 3), 1, [], [(Zs "self", .pos 0)], none, none⟩
noncomputable def fd700 : FuncData := mkFd (stMe 20 25) (Zs "StringIO.read") (.ref 693) 699 (Zs "io") 648
noncomputable def fn700 : Fn := ⟨fd700, bodyOf (stMe 20 25), 2, [], [(Zs "self", .pos 0), (Zs "size", .pos 1)], none, none⟩
noncomputable def fd813 : FuncData := mkFd (stMe 30 0) (Zs "shlex.__init__") (.ref 806) 812 (Zs "cpy313.shlex") 1364
noncomputable def fn813 : Fn := ⟨fd813, bodyOf (stMe 30 0), 2, [Zs "posix"], [(Zs "self", .pos 0), (Zs "instream", .pos 1), (Zs "infile", .dflt (.none)), (Zs "posix", .kw (Zs "posix")), (Zs "punctuation_chars", .dflt (.bool false))], none, none⟩
noncomputable def fd820 : FuncData := mkFd (stMe 30 1) (Zs "shlex.punctuation_chars") (.none) 819 (Zs "cpy313.shlex") 1364
noncomputable def fn820 : Fn := ⟨fd820, bodyOf (stMe 30 1), 1, [], [(Zs "self", .pos 0)], none, none⟩
noncomputable def fd850 : FuncData := mkFd (stMe 30 5) (Zs "shlex.get_token") (.none) 849 (Zs "cpy313.shlex") 1364
noncomputable def fn850 : Fn := ⟨fd850, bodyOf (stMe 30 5), 1, [], [(Zs "self", .pos 0)], none, none⟩
noncomputable def fd857 : FuncData := mkFd (stMe 30 6) (Zs "shlex.read_token") (.none) 856 (Zs "cpy313.shlex") 1364
noncomputable def fn857 : Fn := ⟨fd857, bodyOf (stMe 30 6), 1, [], [(Zs "self", .pos 0)], none, none⟩
noncomputable def fd879 : FuncData := mkFd (stMe 30 9) (Zs "shlex.__iter__") (.none) 878 (Zs "cpy313.shlex") 1364
noncomputable def fn879 : Fn := ⟨fd879, bodyOf (stMe 30 9), 1, [], [(Zs "self", .pos 0)], none, none⟩
noncomputable def fd886 : FuncData := mkFd (stMe 30 10) (Zs "shlex.__next__") (.none) 885 (Zs "cpy313.shlex") 1364
noncomputable def fn886 : Fn := ⟨fd886, bodyOf (stMe 30 10), 1, [], [(Zs "self", .pos 0)], none, none⟩
noncomputable def fd901 : FuncData := mkFd (stTop 31) (Zs "split") (.ref 894) 900 (Zs "cpy313.shlex") 1364
noncomputable def fn901 : Fn := ⟨fd901, bodyOf (stTop 31), 1, [], [(Zs "s", .pos 0), (Zs "comments", .dflt (.bool false)), (Zs "posix", .dflt (.bool true))], none, none⟩
noncomputable def fd908 : FuncData := mkFd (stTop 32) (Zs "join") (.none) 907 (Zs "cpy313.shlex") 1364
noncomputable def fn908 : Fn := ⟨fd908, bodyOf (stTop 32), 1, [], [(Zs "split_command", .pos 0)], none, none⟩
noncomputable def fd916 : FuncData := mkFd (stTop 35) (Zs "quote") (.none) 915 (Zs "cpy313.shlex") 1364
noncomputable def fn916 : Fn := ⟨fd916, bodyOf (stTop 35), 1, [], [(Zs "s", .pos 0)], none, none⟩
noncomputable def fd923 : FuncData := mkFd (stTop 37) (Zs "_law_pair") (.none) 922 (Zs "law_of0116_01") 1532
noncomputable def fn923 : Fn := ⟨fd923, bodyOf (stTop 37), 1, [], [(Zs "r", .pos 0)], none, none⟩
noncomputable def fd930 : FuncData := mkFd (stTop 38) (Zs "_law_call") (.none) 929 (Zs "law_of0116_01") 1532
noncomputable def fn930 : Fn := ⟨fd930, bodyOf (stTop 38), 2, [], [(Zs "table", .pos 0), (Zs "r", .pos 1)], none, none⟩
noncomputable def fd937 : FuncData := mkFd (stTop 39) (Zs "_law_there_and_back") (.none) 936 (Zs "law_of0116_01") 1532
noncomputable def fn937 : Fn := ⟨fd937, bodyOf (stTop 39), 2, [], [(Zs "rows", .pos 0), (Zs "draws", .pos 1)], none, none⟩
noncomputable def fd942 : FuncData := mkFd (stTop 40) (Zs "_law_due") (.none) 941 (Zs "law_of0116_01") 1532
noncomputable def fn942 : Fn := ⟨fd942, bodyOf (stTop 40), 2, [], [(Zs "rows", .pos 0), (Zs "draws", .pos 1)], none, some (Zs "rows")⟩
noncomputable def fd947 : FuncData := mkFd (stTop 41) (Zs "law") (.none) 946 (Zs "law_of0116_01") 1532
noncomputable def fn947 : Fn := ⟨fd947, bodyOf (stTop 41), 1, [], [(Zs "script", .pos 0)], none, none⟩
noncomputable def fnTab : List (Addr × List Fn) := [(82, [fn82]), (89, [fn89]), (103, [fn103]), (108, [fn108]), (154, [fn154]), (187, [fn187]), (201, [fn201]), (220, [fn220]), (524, [fn524]), (531, [fn531]), (538, [fn538]), (700, [fn700]), (813, [fn813]), (820, [fn820]), (850, [fn850]), (857, [fn857]), (879, [fn879]), (886, [fn886]), (901, [fn901]), (908, [fn908]), (916, [fn916]), (923, [fn923]), (930, [fn930]), (937, [fn937]), (942, [fn942]), (947, [fn947])]
noncomputable def atTab : List (Addr × List (Str × At)) := [(190, [(Zs "_headers", .own), (Zs "_convert_string_type", .meth 89), (Zs "__setitem__", .meth 103), (Zs "__delitem__", .meth 108), (Zs "items", .meth 154), (Zs "add_header", .meth 187)]), (889, [(Zs "instream", .own), (Zs "infile", .own), (Zs "posix", .own), (Zs "eof", .own), (Zs "commenters", .own), (Zs "wordchars", .own), (Zs "whitespace", .own), (Zs "whitespace_split", .own), (Zs "quotes", .own), (Zs "escape", .own), (Zs "escapedquotes", .own), (Zs "state", .own), (Zs "pushback", .own), (Zs "lineno", .own), (Zs "debug", .own), (Zs "token", .own), (Zs "filestack", .own), (Zs "source", .own), (Zs "_punctuation_chars", .own), (Zs "punctuation_chars", .prop 820), (Zs "get_token", .meth 850), (Zs "read_token", .meth 857)]), (754, [(Zs "_StringIO__newline", .own), (Zs "_StringIO__buf", .own), (Zs "_StringIO__pos", .own), (Zs "_StringIO__check", .meth 538), (Zs "_StringIO__translated", .meth 531), (Zs "read", .meth 700)])]
noncomputable def globTab : List (Str × Value) := [(Zs "_index", .ref 220), (Zs "_name_disallowed_re", .ref 54), (Zs "_value_disallowed_re", .ref 59), (Zs "_find_unsafe", .ref 909), (Zs "quote", .ref 916), (Zs "shlex", .ref 889), (Zs "StringIO", .ref 754), (Zs "Headers", .ref 190), (Zs "_law_pair", .ref 923), (Zs "_law_call", .ref 930), (Zs "_law_there_and_back", .ref 937), (Zs "_law_due", .ref 942), (Zs "unorderable_list_difference", .ref 201), (Zs "join_shlex", .ref 908), (Zs "split", .ref 901), (Zs "deque", .type "collections.deque"), (Zs "ValueError", .type "ValueError"), (Zs "StopIteration", .type "StopIteration"), (Zs "str", .type "str"), (Zs "int", .type "int"), (Zs "bool", .type "bool"), (Zs "list", .type "list"), (Zs "type", .type "type"), (Zs "isinstance", .builtin "isinstance"), (Zs "len", .builtin "len"), (Zs "range", .type "range"), (Zs "min", .builtin "min"), (Zs "sorted", .builtin "sorted"), (Zs "dict", .type "dict")]
noncomputable def clsTab : List (Addr × Addr) := [(190, 82), (889, 813), (754, 524)]
noncomputable def srchTab : List (Addr × List (Str × Bool)) := [(54, [(Zs "a", false), (Zs "A", false), (Zs "b", false), (Zs "B", false), (Zs "c", false), (Zs "C", false)]), (59, [(Zs "", false), (Zs "it's", false), (Zs "x y", false)]), (206, [(Zs "a", false), (Zs "A", false), (Zs "b", false), (Zs "B", false), (Zs "c", false), (Zs "C", false), (Zs "it's", true), (Zs "x y", true)])]
noncomputable def TT : Tp := ⟨globTab, fnTab, atTab, clsTab, srchTab⟩
section lists
variable {α : Type}
theorem nth_append_left : ∀ {l t : List α} {i : Nat} {a : α}, nth l i = some a -> nth (l ++ t) i = some a
 | _ :: _, _, 0, _, h => h
 | _ :: r, t, i + 1, a, h => nth_append_left (l := r) (t := t) (i := i) h
theorem nth_mem : ∀ {l : List α} {i : Nat} {a : α}, nth l i = some a -> a ∈ l
 | _ :: _, 0, _, h => by cases h; exact .head _
 | _ :: r, i + 1, a, h => .tail _ (nth_mem (l := r) (i := i) h)
theorem nth_len : ∀ {l : List α} {i : Nat} {a : α}, nth l i = some a -> i < l.length
 | _ :: _, 0, _, _ => Nat.succ_pos _
 | _ :: r, i + 1, _, h => Nat.succ_lt_succ (nth_len (l := r) h)
theorem len_eq : ∀ l : List α, len l = l.length
 | [] => rfl
 | _ :: r => congrArg Nat.succ (len_eq r)
theorem nth_last : ∀ (l : List α) (a : α), nth (l ++ [a]) l.length = some a
 | [], _ => rfl
 | _ :: r, a => nth_last r a
theorem nth_lt : ∀ {l : List α} {i : Nat}, i < l.length -> ∃ a, nth l i = some a
 | a :: _, 0, _ => ⟨a, rfl⟩
 | _ :: r, i + 1, h => nth_lt (l := r) (Nat.lt_of_succ_lt_succ h)
theorem nth_append_inv : ∀ {l : List α} {a b : α} {i : Nat}, nth (l ++ [a]) i = some b -> (nth l i = some b) \/ (i = l.length /\ b = a)
 | [], a, b, 0, h => by cases h; exact .inr ⟨rfl, rfl⟩
 | [], a, b, i + 1, h => by cases h
 | x :: r, a, b, 0, h => .inl h
 | x :: r, a, b, i + 1, h => by
  rcases nth_append_inv (l := r) (i := i) h with e | ⟨e, f⟩
  · exact .inl e
  · exact .inr ⟨congrArg Nat.succ e, f⟩
theorem setNth_length : ∀ (l : List α) (i : Nat) (x : α), (setNth l i x).length = l.length
 | [], _, _ => rfl
 | _ :: _, 0, _ => rfl
 | _ :: r, i + 1, x => congrArg Nat.succ (setNth_length r i x)
theorem nth_setNth : ∀ {l : List α} {i j : Nat} {x b : α}, nth (setNth l i x) j = some b -> (i = j /\ b = x) \/ (i ≠ j /\ nth l j = some b)
 | [], _, _, _, _, h => by cases h
 | _ :: _, 0, 0, _, _, h => by cases h; exact .inl ⟨rfl, rfl⟩
 | _ :: _, 0, j + 1, _, _, h => .inr ⟨nofun, h⟩
 | _ :: _, i + 1, 0, _, _, h => .inr ⟨nofun, h⟩
 | _ :: r, i + 1, j + 1, x, b, h => by
  rcases nth_setNth (l := r) (i := i) (j := j) h with ⟨e, f⟩ | ⟨e, f⟩
  · exact .inl ⟨congrArg Nat.succ e, f⟩
  · exact .inr ⟨fun z => e (Nat.succ.inj z), f⟩
theorem nodup_nth : ∀ {l : List α}, l.Nodup -> ∀ {i j : Nat} {a : α}, nth l i = some a -> nth l j = some a -> i = j
 | _ :: _, _, 0, 0, _, _, _ => rfl
 | x :: r, h, 0, j + 1, a, e, f => by cases e; exact absurd (nth_mem (l := r) f) (List.nodup_cons.mp h).1
 | x :: r, h, i + 1, 0, a, e, f => by cases f; exact absurd (nth_mem (l := r) e) (List.nodup_cons.mp h).1
 | x :: r, h, i + 1, j + 1, a, e, f => congrArg Nat.succ (nodup_nth (List.nodup_cons.mp h).2 e f)
theorem look_mem {x : Str} : ∀ {l : List (Str × α)} {v : α}, look x l = some v -> (x, v) ∈ l
 | p :: r, v, h => by
  unfold look at h
  cases q : seq x p.1 with
  | true => rw [q] at h; cases h; rw [seq_iff.mp q]; exact .head _
  | false => rw [q] at h; exact .tail _ (look_mem h)
theorem nlook_mem {x : Nat} : ∀ {l : List (Nat × α)} {v : α}, nlook x l = some v -> (x, v) ∈ l
 | p :: r, v, h => by
  unfold nlook at h
  cases q : Nat.beq x p.1 with
  | true => rw [q] at h; cases h; rw [Nat.eq_of_beq_eq_true q]; exact .head _
  | false => rw [q] at h; exact .tail _ (nlook_mem h)
theorem look_put {x y : Str} {v : α} : ∀ {l : List (Str × α)}, look y (put x v l) = if seq y x then some v else look y l
 | [] => by
  show (match seq y x with | true => some v | false => none) = _
  cases seq y x <;> rfl
 | p :: r => by
  unfold put
  cases q : seq x p.1 with
  | true =>
   have e : x = p.1 := seq_iff.mp q
   subst e
   show (match seq y p.1 with | true => some v | false => look y r) = if seq y p.1 then some v else (match seq y p.1 with | true => some p.2 | false => look y r)
   cases seq y p.1 <;> rfl
  | false =>
   show (match seq y p.1 with | true => some p.2 | false => look y (put x v r)) = if seq y x then some v else (match seq y p.1 with | true => some p.2 | false => look y r)
   cases w : seq y p.1 with
   | true =>
    have e : y = p.1 := seq_iff.mp w
    have : seq y x = false := seq_false.mpr fun z => by rw [<- z, e, seq_iff.mpr rfl] at q; cases q
    rw [this]; rfl
   | false => exact look_put (l := r)
end lists
theorem bnd_some {α β : Type} {x : Option α} {f : α -> Option β} {b : β} (h : bnd x f = some b) : ∃ a, x = some a /\ f a = some b := by
 unfold bnd at h
 cases x with
 | none => cases h
 | some a => exact ⟨a, rfl, h⟩
theorem bn2_some {α β : Type} {x : Rs α} {f : α -> St -> Rs β} {b : β} {σ' : St} (h : bn2 x f = some (b, σ', true)) : ∃ a σ, x = some (a, σ, true) /\ f a σ = some (b, σ', true) := by
 unfold bn2 at h
 cases x with
 | none => cases h
 | some p =>
  obtain ⟨a, σ, t⟩ := p
  dsimp only at h
  cases q : f a σ with
  | none => rw [q] at h; cases h
  | some y =>
   obtain ⟨c, σ₁, t1⟩ := y
   rw [q] at h
   dsimp only at h
   injection h with h
   injection h with h1 h2
   injection h2 with h2 h3
   cases t
   · cases h3
   · cases t1
     · cases h3
     · cases h1; cases h2; exact ⟨a, σ, rfl, q⟩
theorem chk_some {β : Type} {x : Rs β} {t : Bool} {b : β} {σ' : St} (h : chk t x = some (b, σ', true)) : t = true /\ x = some (b, σ', true) := by
 unfold chk at h
 cases x with
 | none => cases h
 | some p =>
  obtain ⟨a, σ, f⟩ := p
  dsimp only at h
  injection h with h
  injection h with h1 h2
  injection h2 with h2 h3
  cases t
  · cases h3
  · cases f
    · cases h3
    · cases h1; cases h2; exact ⟨rfl, rfl⟩
theorem ok_some {α : Type} {v v' : α} {σ σ' : St} (h : ok v σ = some (v', σ', true)) : v = v' /\ σ = σ' := by
 unfold ok at h
 cases h; exact ⟨rfl, rfl⟩
theorem bn2_el {α β : Type} {x : Rs α} {f : α -> St -> Rs β} {b : β} {σ' : St} {C : Prop} (h : bn2 x f = some (b, σ', true)) (k : ∀ a σ, x = some (a, σ, true) -> f a σ = some (b, σ', true) -> C) : C := let ⟨a, σ, p, q⟩ := bn2_some h; k a σ p q
theorem bnd_el {α β : Type} {x : Option α} {f : α -> Option β} {b : β} {C : Prop} (h : bnd x f = some b) (k : ∀ a, x = some a -> f a = some b -> C) : C := let ⟨a, p, q⟩ := bnd_some h; k a p q
theorem chk_el {β : Type} {x : Rs β} {t : Bool} {b : β} {σ' : St} {C : Prop} (h : chk t x = some (b, σ', true)) (k : t = true -> x = some (b, σ', true) -> C) : C := let ⟨p, q⟩ := chk_some h; k p q
@[elab_as_elim] theorem ok_el {α : Type} {v v' : α} {σ σ' : St} {P : α -> St -> Prop} (h : ok v σ = some (v', σ', true)) (k : P v σ) : P v' σ' := by obtain ⟨rfl, rfl⟩ := ok_some h; exact k
theorem none_el {α : Type} {a : α} {C : Prop} (h : (none : Option α) = some a) : C := nomatch h
theorem ff_el {C : Prop} (h : false = true) : C := nomatch h
theorem gd_el {α : Type} {b : Bool} {x : Option α} {a : α} {C : Prop} (h : gd b x = some a) (k : b = true -> x = some a -> C) : C := by
 unfold gd at h
 cases b with
 | true => exact k rfl h
 | false => exact none_el h
theorem pk2_el {α : Type} {b : Bool} {x y : Option α} {a : α} {C : Prop} (h : pk b x y = some a) (k : b = true -> x = some a -> C) (k' : b = false -> y = some a -> C) : C := by
 unfold pk at h
 cases b with
 | true => exact k rfl h
 | false => exact k' rfl h
theorem pk_el {α : Type} {b : Bool} {x : Option α} {a : α} {C : Prop} (h : pk b x none = some a) (k : b = true -> x = some a -> C) : C := pk2_el h k fun ι h => none_el h
theorem pk_t {α : Type} {x y : Option α} {a : α} (h : pk true x y = some a) : x = some a := pk2_el h (fun ι h => h) fun e ι => ff_el e.symm
theorem pk_f {α : Type} {x y : Option α} {a : α} (h : pk false x y = some a) : y = some a := pk2_el h (fun e ι => ff_el e) fun ι h => h
theorem pk_true {α : Type} {x y : α} : pk true x y = x := by unfold pk; rfl
theorem pk_false {α : Type} {x y : α} : pk false x y = y := by unfold pk; rfl
theorem or_el {a b : Bool} {C : Prop} (h : (a || b) = true) (k : a = true -> C) (k' : b = true -> C) : C := by
 cases a with
 | true => exact k rfl
 | false => exact k' h
theorem and_el {a b : Bool} {C : Prop} (h : (a && b) = true) (k : a = true -> b = true -> C) : C := by
 cases a with
 | true => exact k rfl h
 | false => exact ff_el h
theorem not_el {b : Bool} (h : (!b) = true) : b = false := by
 cases b with
 | false => rfl
 | true => exact ff_el h
theorem isNil_inv {α : Type} {l : List α} (h : isNil l = true) : l = [] := by
 cases l with
 | nil => rfl
 | cons => exact ff_el h
theorem isNone_inv {α : Type} {l : Option α} (h : l.isNone = true) : l = none := by
 cases l with
 | none => rfl
 | some => exact ff_el h
theorem isSome_el {α : Type} {l : Option α} {C : Prop} (h : l.isSome = true) (k : ∀ a, l = some a -> C) : C := by
 cases l with
 | some a => exact k a rfl
 | none => exact ff_el h
theorem oneV_inv {α : Type} {l : List α} {a : α} (h : oneV l = some a) : l = [a] := by
 cases l with
 | nil => exact none_el h
 | cons b l => exact gd_el h fun e h => by rw [isNil_inv e, Option.some.inj h]
theorem twoV_inv {α : Type} {l : List α} {p : α × α} (h : twoV l = some p) : l = [p.1, p.2] := by
 cases l with
 | nil => exact none_el h
 | cons b l => exact bnd_el h fun c h1 h => by rw [oneV_inv h1, <- Option.some.inj h]
theorem lsO_inv {o : Option AO} {l : List PyData} (h : lsO o = some l) : o = some (.list l) := by
 cases o with
 | none => exact none_el h
 | some a => cases a with
  | list x => exact congrArg (fun l => some (AO.list l)) (Option.some.inj h)
  | _ => exact none_el h
theorem dcO_inv {o : Option AO} {l : List (Str × AV)} (h : dcO o = some l) : o = some (.dict l) := by
 cases o with
 | none => exact none_el h
 | some a => cases a with
  | dict x => exact congrArg (fun l => some (AO.dict l)) (Option.some.inj h)
  | _ => exact none_el h
theorem nsO_inv {o : Option AO} {l : List (Str × AV)} (h : nsO o = some l) : o = some (.ns l) := by
 cases o with
 | none => exact none_el h
 | some a => cases a with
  | ns x => exact congrArg (fun l => some (AO.ns l)) (Option.some.inj h)
  | _ => exact none_el h
theorem sdO_inv {o : Option AO} {l : List Nat} (h : sdO o = some l) : o = some (.sdict l) := by
 cases o with
 | none => exact none_el h
 | some a => cases a with
  | sdict x => exact congrArg (fun l => some (AO.sdict l)) (Option.some.inj h)
  | _ => exact none_el h
theorem ceO_inv {o : Option AO} {l : AV} (h : ceO o = some l) : o = some (.cell l) := by
 cases o with
 | none => exact none_el h
 | some a => cases a with
  | cell x => exact congrArg (fun l => some (AO.cell l)) (Option.some.inj h)
  | _ => exact none_el h
theorem tpO_inv {o : Option AO} {l : List AV} (h : tpO o = some l) : o = some (.tuple l) := by
 cases o with
 | none => exact none_el h
 | some a => cases a with
  | tuple x => exact congrArg (fun l => some (AO.tuple l)) (Option.some.inj h)
  | _ => exact none_el h
theorem inO_inv {o : Option AO} {p : Addr × Nat} (h : inO o = some p) : o = some (.inst p.1 p.2) := by
 cases o with
 | none => exact none_el h
 | some a => cases a with
  | inst C d => exact congrArg (fun p : Addr × Nat => some (AO.inst p.1 p.2)) (Option.some.inj h)
  | _ => exact none_el h
theorem strV_inv {v : AV} {s : Str} (h : strV v = some s) : v = .str s := by
 cases v with
 | str x => exact congrArg _ (Option.some.inj h)
 | _ => exact none_el h
theorem refV_inv {v : AV} {i : Nat} (h : refV v = some i) : v = .ref i := by
 cases v with
 | ref x => exact congrArg _ (Option.some.inj h)
 | _ => exact none_el h
theorem intV_inv {v : AV} {i : Int} (h : intV v = some i) : v = .int i := by
 cases v with
 | int x => exact congrArg _ (Option.some.inj h)
 | _ => exact none_el h
theorem rwV_inv {v : AV} {i : Value} (h : rwV v = some i) : v = .raw i := by
 cases v with
 | raw x => exact congrArg _ (Option.some.inj h)
 | _ => exact none_el h
theorem tupP_inv {d : PyData} {l : List PyData} (h : tupP d = some l) : d = .tuple l := by
 cases d with
 | tuple x => exact congrArg _ (Option.some.inj h)
 | _ => exact none_el h
theorem strP_inv {d : PyData} {s : Str} (h : strP d = some s) : d = .str s := by
 cases d with
 | str x => exact congrArg _ (Option.some.inj h)
 | _ => exact none_el h
theorem intP_inv {d : PyData} {s : Int} (h : intP d = some s) : d = .int s := by
 cases d with
 | int x => exact congrArg _ (Option.some.inj h)
 | _ => exact none_el h
theorem tupV_inv {v : AV} {l : List PyData} (h : tupV v = some l) : v = .dat (.tuple l) := by
 cases v with
 | dat d => exact congrArg AV.dat (tupP_inv (d := d) (by cases d <;> first | exact h | exact none_el h))
 | _ => exact none_el h
theorem typV_inv {v : AV} {f : String} (h : typV v = some f) : v = .raw (.type f) := by
 cases v with
 | raw u => cases u with
  | type g => exact congrArg (fun f => AV.raw (.type f)) (Option.some.inj h)
  | _ => exact none_el h
 | _ => exact none_el h
theorem natI_inv {i : Int} {n : Nat} (h : natI i = some n) : i = .ofNat n := by
 cases i with
 | ofNat x => exact congrArg _ (Option.some.inj h)
 | negSucc => exact none_el h
theorem natV_inv {v : AV} {n : Nat} (h : natV v = some n) : v = .int (.ofNat n) := bnd_el h fun i h1 h2 => by rw [intV_inv h1, natI_inv h2]
theorem mtA_inv {k : At} {f : Addr} (h : mtA k = some f) : k = .meth f := by
 cases k with
 | meth g => exact congrArg _ (Option.some.inj h)
 | _ => exact none_el h
theorem onC_el {α : Type} {b i : Nat} {f : b = i -> Option α} {q : α} {C : Prop} (h : onC b i f none = some q) (k : b = i -> C) : C := by
 unfold onC at h
 by_cases e : b = i
 · exact k e
 · rw [dif_neg e] at h; exact none_el h
theorem som_el {α : Type} {a b : α} {q : α -> Prop} (h : some a = some b) (k : q b) : q a := Option.some.inj h ▸ k
theorem som_e2 {α : Type} {a b : α} {q : α -> Prop} (h : some a = some b) (k : q a) : q b := Option.some.inj h ▸ k
theorem nameOf_el {e : Expr} {x : Str} {C : Expr -> Prop} (h : nameOf e = some x) (k : ∀ p, C (.Name x p)) : C e :=
 onC_el h fun hb => Expr.Name.elim (motive_1 := fun e => nameOf e = some x -> C e) e hb (fun y p h => som_el (q := fun y => C (.Name y p)) h (k p)) h
theorem callE_el {e : Expr} {q : CaE} {C : Expr -> Prop} (h : callE e = some q) (k : C (.Call q.f q.as q.ks q.p)) : C e :=
 onC_el h fun hb => Expr.Call.elim (motive_1 := fun e => callE e = some q -> C e) e hb (fun f as ks p h => som_e2 (q := fun q => C (.Call q.f q.as q.ks q.p) -> C (.Call f as ks p)) h (fun k => k) k) h
theorem attE_el {e : Expr} {q : AtE} {C : Expr -> Prop} (h : attE e = some q) (k : C (.Attribute q.o q.x q.p)) : C e :=
 onC_el h fun hb => Expr.Attribute.elim (motive_1 := fun e => attE e = some q -> C e) e hb (fun f as p h => som_e2 (q := fun q => C (.Attribute q.o q.x q.p) -> C (.Attribute f as p)) h (fun k => k) k) h
theorem tupE_el {e : Expr} {es : List Expr} {C : Expr -> Prop} (h : tupE e = some es) (k : ∀ c p, C (.Tuple es c p)) : C e :=
 onC_el h fun hb => Expr.Tuple.elim (motive_1 := fun e => tupE e = some es -> C e) e hb (fun y c p h => som_el (q := fun y => C (.Tuple y c p)) h (k c p)) h
theorem conE_el {e : Expr} {q : Const} {C : Expr -> Prop} (h : conE e = some q) (k : ∀ c p, C (.Constant q c p)) : C e :=
 onC_el h fun hb => Expr.Constant.elim (motive_1 := fun e => conE e = some q -> C e) e hb (fun y c p h => som_el (q := fun y => C (.Constant y c p)) h (k c p)) h
theorem conI_inv {k : Const} {i : Int} (h : conI k = some i) : k = .int i := by
 cases k with
 | int g => exact congrArg _ (Option.some.inj h)
 | _ => exact none_el h
theorem conS_inv {k : Const} {i : Str} (h : conS k = some i) : k = .str i := by
 cases k with
 | str g => exact congrArg _ (Option.some.inj h)
 | _ => exact none_el h
theorem strE_el {e : Expr} {x : Str} {C : Expr -> Prop} (h : strE e = some x) (k : ∀ c p, C (.Constant (.str x) c p)) : C e := bnd_el h fun q h1 h2 => conE_el h1 fun c p => by rw [conS_inv h2]; exact k c p
theorem isAdd_inv {op : Operator} (h : isAdd op = true) : op = .Add := by
 cases op <;> first | rfl | exact ff_el h
theorem isUSub_inv {op : UnaryOp} (h : isUSub op = true) : op = .USub := by
 cases op <;> first | rfl | exact ff_el h
theorem ok_q {α : Type} {a v : α} {s s' : St} {q : α -> St -> Prop} (h : ok a s = some (v, s', true)) (k : q v s') : q a s := by obtain ⟨rfl, rfl⟩ := ok_some h; exact k
noncomputable abbrev Fz := Addr -> Option Obj
structure Rho where
 l : List Addr
 F : Fz
 X : Fz
 fs : List Nat
noncomputable abbrev tupOf (vs : Array Value) (n : Nat) : Obj := { cls := .type "tuple", data := .seq vs n }
mutual
inductive FR (F : Fz) : PyData -> Value -> Prop
 | none : FR F .none .none
 | bool (b : Bool) : FR F (.bool b) (.bool b)
 | int (i : Int) (t : Tok) : FR F (.int i) (.int i t)
 | str (x : Str) (t : Tok) : FR F (.str x) (.str x t)
 | list {a : Addr} {vs : List Value} {n : Nat} {l : List PyData} : F a = some (listOf ⟨vs⟩ n) -> FRs F l vs -> FR F (.list l) (.ref a)
 | tuple {a : Addr} {vs : List Value} {n : Nat} {l : List PyData} : F a = some (tupOf ⟨vs⟩ n) -> FRs F l vs -> FR F (.tuple l) (.ref a)
inductive FRs (F : Fz) : List PyData -> List Value -> Prop
 | nil : FRs F [] []
 | cons {d : PyData} {v : Value} {l : List PyData} {vs : List Value} : FR F d v -> FRs F l vs -> FRs F (d :: l) (v :: vs)
end
noncomputable def FSub (F F' : Fz) : Prop := ∀ a o, F a = some o -> F' a = some o
theorem FSub.refl (F : Fz) : FSub F F := fun ι ι e => e
theorem FSub.trans {F F' F'' : Fz} (x : FSub F F') (y : FSub F' F'') : FSub F F'' := fun a o e => y a o (x a o e)
theorem FR.mono {F F' : Fz} (k : FSub F F') {d : PyData} {v : Value} (h : FR F d v) : FR F' d v :=
 FR.rec (motive_1 := fun d v ι => FR F' d v) (motive_2 := fun l vs ι => FRs F' l vs) .none .bool .int .str (fun e ι r => .list (k _ _ e) r) (fun e ι r => .tuple (k _ _ e) r) .nil (fun ι ι a r => .cons a r) h
theorem FRs.mono {F F' : Fz} (k : FSub F F') {l : List PyData} {vs : List Value} (h : FRs F l vs) : FRs F' l vs :=
 FRs.rec (motive_1 := fun d v ι => FR F' d v) (motive_2 := fun l vs ι => FRs F' l vs) .none .bool .int .str (fun e ι r => .list (k _ _ e) r) (fun e ι r => .tuple (k _ _ e) r) .nil (fun ι ι a r => .cons a r) h
noncomputable def FRo (F : Fz) : PyData -> Value -> Prop
 | .none, v => v = .none
 | .bool b, v => v = .bool b
 | .int i, v => ∃ t, v = .int i t
 | .str x, v => ∃ t, v = .str x t
 | .list l, v => ∃ a vs n, v = .ref a /\ F a = some (listOf ⟨vs⟩ n) /\ FRs F l vs
 | .tuple l, v => ∃ a vs n, v = .ref a /\ F a = some (tupOf ⟨vs⟩ n) /\ FRs F l vs
 | _, _ => False
theorem FR.out {F : Fz} {d : PyData} {v : Value} (h : FR F d v) : FRo F d v := by
 cases h with
 | none => exact rfl
 | bool b => exact rfl
 | int i t => exact ⟨t, rfl⟩
 | str x t => exact ⟨t, rfl⟩
 | list e r => exact ⟨_, _, _, rfl, e, r⟩
 | tuple e r => exact ⟨_, _, _, rfl, e, r⟩
noncomputable def FRso (F : Fz) : List PyData -> List Value -> Prop
 | [], vs => vs = []
 | d :: l, vs => ∃ v r, vs = v :: r /\ FR F d v /\ FRs F l r
theorem FRs.out {F : Fz} {l : List PyData} {vs : List Value} (h : FRs F l vs) : FRso F l vs := by
 cases h with
 | nil => exact rfl
 | cons a b => exact ⟨_, _, rfl, a, b⟩
theorem FRs.ind {F : Fz} {P : List PyData -> List Value -> Prop} (n : P [] []) (c : ∀ {d v l vs}, FR F d v -> FRs F l vs -> P l vs -> P (d :: l) (v :: vs)) {l : List PyData} {vs : List Value} (h : FRs F l vs) : P l vs := by
 induction l generalizing vs with
 | nil => have e : vs = [] := h.out; subst e; exact n
 | cons d l ih =>
  obtain ⟨v, r, rfl, a, b⟩ := h.out
  exact c a b (ih b)
theorem FRs.length {F : Fz} {l : List PyData} {vs : List Value} (h : FRs F l vs) : vs.length = l.length := FRs.ind (P := fun l vs => vs.length = l.length) rfl (fun ι ι ih => congrArg Nat.succ ih) h
theorem FRs.append {F : Fz} {l l' : List PyData} {vs vs' : List Value} (h : FRs F l vs) (k : FRs F l' vs') : FRs F (l ++ l') (vs ++ vs') := FRs.ind (P := fun l vs => FRs F (l ++ l') (vs ++ vs')) k (fun a ι ih => .cons a ih) h
@[elab_as_elim] theorem FRs.cons_el {F : Fz} {d : PyData} {l : List PyData} {vs : List Value} {C : List Value -> Prop} (V : FRs F (d :: l) vs) (k : ∀ u r, FR F d u -> FRs F l r -> C (u :: r)) : C vs := by
 obtain ⟨u, r, rfl, v, w⟩ := V.out
 exact k u r v w
@[elab_as_elim] theorem FRs.nil_el {F : Fz} {vs : List Value} {C : List Value -> Prop} (V : FRs F [] vs) (k : C []) : C vs := (show vs = [] from V.out) ▸ k
@[elab_as_elim] theorem FRs.split_el {F : Fz} {p q : List PyData} {a : PyData} {vs : List Value} {C : List Value -> Prop} (h : FRs F (p ++ a :: q) vs) (k : ∀ us v ws, FRs F p us -> FR F a v -> FRs F q ws -> C (us ++ v :: ws)) : C vs := by
 induction p generalizing vs C with
 | nil => exact h.cons_el fun u r f W => k [] u r .nil f W
 | cons b p ih => exact FRs.cons_el (C := C) h fun u r f W => ih (C := fun r => C (u :: r)) W fun us v ws x y z => k (u :: us) v ws (.cons f x) y z
noncomputable def VR (ρ : Rho) : AV -> Value -> Prop
 | .none, v => v = .none
 | .bool b, v => v = .bool b
 | .int i, v => ∃ t, v = .int i t
 | .str x, v => ∃ t, v = .str x t
 | .ref i, v => ∃ a, nth ρ.l i = some a /\ v = .ref a
 | .raw u, v => v = u
 | .dat d, v => FR ρ.F d v
 | .unk, _ => True
inductive VRs (ρ : Rho) : List AV -> List Value -> Prop
 | nil : VRs ρ [] []
 | cons {a v l vs} : VR ρ a v -> VRs ρ l vs -> VRs ρ (a :: l) (v :: vs)
inductive DR (ρ : Rho) : List (Str × AV) -> List DictEntry -> Prop
 | nil : DR ρ [] []
 | cons {x a l e es t} : e.key = .str x t -> VR ρ a e.val -> DR ρ l es -> DR ρ ((x, a) :: l) (e :: es)
theorem toP_ok {ρ : Rho} {a : AV} {d : PyData} {v : Value} (h : toP a = some d) (V : VR ρ a v) : FR ρ.F d v := by
 cases a with
 | none => cases h; cases (show v = .none from V); exact .none
 | bool b => cases h; cases (show v = .bool b from V); exact .bool b
 | int i => cases h; obtain ⟨t, rfl⟩ := V; exact .int i t
 | str i => cases h; obtain ⟨t, rfl⟩ := V; exact .str i t
 | ref i => cases h
 | raw i => cases h
 | dat i => cases h; exact V
 | unk => cases h
theorem ofP_ok {ρ : Rho} {d : PyData} {v : Value} (V : FR ρ.F d v) : VR ρ (ofP d) v := by
 have W := V.out
 cases d with
 | none => exact W
 | bool b => exact W
 | int i => exact W
 | str x => exact W
 | list l => exact V
 | tuple l => exact V
 | _ => exact W.elim
noncomputable def VRso (ρ : Rho) : List AV -> List Value -> Prop
 | [], vs => vs = []
 | a :: l, vs => ∃ v r, vs = v :: r /\ VR ρ a v /\ VRs ρ l r
theorem VRs.out {ρ : Rho} {l : List AV} {vs : List Value} (h : VRs ρ l vs) : VRso ρ l vs := by
 cases h with
 | nil => exact rfl
 | cons a b => exact ⟨_, _, rfl, a, b⟩
@[elab_as_elim] theorem VR.nn {ρ : Rho} {u : Value} {C : Value -> Prop} (V : VR ρ .none u) (k : C .none) : C u := (show u = .none from V) ▸ k
@[elab_as_elim] theorem VR.st {ρ : Rho} {u : Value} {x : Str} {C : Value -> Prop} (V : VR ρ (.str x) u) (k : ∀ t, C (.str x t)) : C u := by obtain ⟨t, rfl⟩ := V; exact k t
@[elab_as_elim] theorem VR.it {ρ : Rho} {u : Value} {x : Int} {C : Value -> Prop} (V : VR ρ (.int x) u) (k : ∀ t, C (.int x t)) : C u := by obtain ⟨t, rfl⟩ := V; exact k t
@[elab_as_elim] theorem VR.rf {ρ : Rho} {u : Value} {i : Nat} {C : Value -> Prop} (V : VR ρ (.ref i) u) (k : ∀ a, nth ρ.l i = some a -> C (.ref a)) : C u := by obtain ⟨a, p, rfl⟩ := V; exact k a p
@[elab_as_elim] theorem VR.rw {ρ : Rho} {u x : Value} {C : Value -> Prop} (V : VR ρ (.raw x) u) (k : C x) : C u := (show u = x from V) ▸ k
theorem isUnk_ne {v : AV} (h : (!isUnk v) = true) : v ≠ .unk := by rintro rfl; exact ff_el h
theorem ok_u {α : Type} {a v : α} {s s' : St} {q : St -> Prop} (h : ok a s = some (v, s', true)) (k : q s') : q s := by obtain ⟨rfl, rfl⟩ := ok_some h; exact k
theorem some_q {α : Type} {a b : α} {q : α -> Prop} (h : some a = some b) (k : q b) : q a := Option.some.inj h ▸ k
@[elab_as_elim] theorem some_el {α : Type} {a b : α} {q : α -> Prop} (h : some a = some b) (k : q a) : q b := Option.some.inj h ▸ k
@[elab_as_elim] theorem ok_t {α : Type} {t t' : α} {σ σ' : St} {P : α -> Prop} (h : ok t σ = some (t', σ', true)) (q : σ' = σ -> P t') : P t := by obtain ⟨rfl, rfl⟩ := ok_some h; exact q rfl
theorem VRs.cons_out {ρ : Rho} {a : AV} {l : List AV} {us : List Value} (h : VRs ρ (a :: l) us) : ∃ u r, us = u :: r /\ VR ρ a u /\ VRs ρ l r := h.out
@[elab_as_elim] theorem VRs.nil_el {ρ : Rho} {vs : List AV} {us : List Value} {C : List Value -> Prop} (h : isNil vs = true) (V : VRs ρ vs us) (k : C []) : C us := by
 induction V with
 | nil => exact k
 | cons => exact ff_el h
@[elab_as_elim] theorem VRs.cons_el {ρ : Rho} {a : AV} {l : List AV} {us : List Value} {C : List Value -> Prop} (V : VRs ρ (a :: l) us) (k : ∀ u r, VR ρ a u -> VRs ρ l r -> C (u :: r)) : C us := by
 obtain ⟨u, r, rfl, v, w⟩ := V.cons_out
 exact k u r v w
@[elab_as_elim] theorem VRs.one {ρ : Rho} {a : AV} {us : List Value} {C : List Value -> Prop} (V : VRs ρ [a] us) (k : ∀ u, VR ρ a u -> C [u]) : C us := V.cons_el fun u ι v V => VRs.nil_el rfl V (k u v)
@[elab_as_elim] theorem VRs.two' {ρ : Rho} {a b : AV} {us : List Value} {C : List Value -> Prop} (V : VRs ρ [a, b] us) (k : ∀ u v, VR ρ a u -> VR ρ b v -> C [u, v]) : C us := V.cons_el fun u ι v V => V.one fun w z => k u w v z
@[elab_as_elim] theorem one_vr {β : Type} {ρ : Rho} {vs : List AV} {us : List Value} {f : AV -> Option β} {b : β} {C : List Value -> Prop} (h : bnd (oneV vs) f = some b) (V : VRs ρ vs us) (k : ∀ w u, VR ρ w u -> f w = some b -> C [u]) : C us :=
 bnd_el h fun a h1 h2 => by have e := oneV_inv h1; subst e; exact V.one fun u v => k a u v h2
@[elab_as_elim] theorem two_vr {β : Type} {ρ : Rho} {vs : List AV} {us : List Value} {f : AV × AV -> Option β} {b : β} {C : List Value -> Prop} (h : bnd (twoV vs) f = some b) (V : VRs ρ vs us) (k : ∀ w w' u u', VR ρ w u -> VR ρ w' u' -> f (w, w') = some b -> C [u, u']) : C us :=
 bnd_el h fun a h1 h2 => by have e := twoV_inv h1; subst e; exact V.two' fun u u' v v' => k _ _ u u' v v' h2
@[elab_as_elim] theorem str_vr {β : Type} {ρ : Rho} {w : AV} {u : Value} {f : Str -> Option β} {b : β} {C : Value -> Prop} (h : bnd (strV w) f = some b) (V : VR ρ w u) (k : ∀ x t, f x = some b -> C (.str x t)) : C u :=
 bnd_el h fun a h1 h2 => by have e := strV_inv h1; subst e; obtain ⟨t, rfl⟩ := V; exact k a t h2
@[elab_as_elim] theorem int_vr {β : Type} {ρ : Rho} {w : AV} {u : Value} {f : Int -> Option β} {b : β} {C : Value -> Prop} (h : bnd (intV w) f = some b) (V : VR ρ w u) (k : ∀ x t, f x = some b -> C (.int x t)) : C u :=
 bnd_el h fun a h1 h2 => by have e := intV_inv h1; subst e; obtain ⟨t, rfl⟩ := V; exact k a t h2
@[elab_as_elim] theorem ref_vr {β : Type} {ρ : Rho} {w : AV} {u : Value} {f : Nat -> Option β} {b : β} {C : Value -> Prop} (h : bnd (refV w) f = some b) (V : VR ρ w u) (k : ∀ i a, nth ρ.l i = some a -> f i = some b -> C (.ref a)) : C u :=
 bnd_el h fun i h1 h2 => by have e := refV_inv h1; subst e; obtain ⟨a, p, rfl⟩ := V; exact k i a p h2
@[elab_as_elim] theorem typ_vr {β : Type} {ρ : Rho} {w : AV} {u : Value} {f : String -> Option β} {b : β} {C : Value -> Prop} (h : bnd (typV w) f = some b) (V : VR ρ w u) (k : ∀ t, f t = some b -> C (.type t)) : C u :=
 bnd_el h fun i h1 h2 => by have e := typV_inv h1; subst e; cases (show u = .type i from V); exact k i h2
theorem tup_vr {β : Type} {ρ : Rho} {w : AV} {u : Value} {f : List PyData -> Option β} {b : β} {C : Prop} (h : bnd (tupV w) f = some b) (V : VR ρ w u) (k : ∀ d, VR ρ (.dat (.tuple d)) u -> f d = some b -> C) : C :=
 bnd_el h fun i h1 h2 => k i (tupV_inv h1 ▸ V) h2
@[elab_as_elim] theorem int2_vr {β : Type} {ρ : Rho} {a b : AV} {u v : Value} {f : Int -> Int -> Rs β} {c : β × St × Bool} {C : Value -> Value -> Prop} (h : int2 a b f = some c) (V : VR ρ a u) (W : VR ρ b v) (k : ∀ x t y t', f x y = some c -> C (.int x t) (.int y t')) : C u v :=
 int_vr (C := fun u => C u v) h V fun x t h => int_vr h W fun y t' h => k x t y t' h
noncomputable def DRo (ρ : Rho) : List (Str × AV) -> List DictEntry -> Prop
 | [], es => es = []
 | p :: l, es => ∃ e r t, es = e :: r /\ e.key = .str p.1 t /\ VR ρ p.2 e.val /\ DR ρ l r
theorem DR.out {ρ : Rho} {l : List (Str × AV)} {es : List DictEntry} (h : DR ρ l es) : DRo ρ l es := by
 cases h with
 | nil => exact rfl
 | cons k a b => exact ⟨_, _, _, rfl, k, a, b⟩
noncomputable def SD (rest : List Nat) (es : List DictEntry) : Prop :=
 ∃ (nl b : Str) (p : Nat) (t1 t2 t3 t4 t5 t6 : Tok) (h1 h2 h3 : Int), es = [⟨h1, .str (Zs "_StringIO__newline") t1, .str nl t2⟩, ⟨h2, .str (Zs "_StringIO__buf") t3, .str b t4⟩, ⟨h3, .str (Zs "_StringIO__pos") t5, .int p t6⟩] /\
  b.cps.toList.drop p = rest /\ p <= b.cps.size /\ b.cps.size <= 100000
inductive OR (ρ : Rho) (h : Heap) (a : Addr) : AO -> Prop
 | junk : OR ρ h a .junk
 | ns {l m} : h.Ns a m -> (∀ x v, look x l = some v -> v = .unk \/ ∃ u, m x = some u /\ VR ρ v u) -> OR ρ h a (.ns l)
 | inst {C d da} : nth ρ.l d = some da -> h.get? a = some (instObj C da) -> OR ρ h a (.inst C d)
 | dict {l es n} : h.get? a = some (dictOf es n) -> DR ρ l es -> a ≠ sysModules -> OR ρ h a (.dict l)
 | list {l vs n} : h.get? a = some (listOf ⟨vs⟩ n) -> FRs ρ.F l vs -> OR ρ h a (.list l)
 | frl {l vs n} : ρ.F a = some (listOf ⟨vs⟩ n) -> FRs ρ.F l vs -> OR ρ h a (.frl l)
 | tuple {l vs n} : h.get? a = some (tupOf ⟨vs⟩ n) -> VRs ρ l vs -> OR ρ h a (.tuple l)
 | deq {o vs} : h.get? a = some o -> o.cls = .type "collections.deque" -> o.data = .fields vs -> vs.size = 2 -> OR ρ h a .deq
 | sdict {rest es n} : h.get? a = some (dictOf es n) -> SD rest es -> a ≠ sysModules -> OR ρ h a (.sdict rest)
 | cell {v u} : h.IsCell a u -> (v = .unk \/ ∃ x, u = some x /\ VR ρ v x) -> OR ρ h a (.cell v)
noncomputable def ORo (ρ : Rho) (h : Heap) (a : Addr) : AO -> Prop
 | .junk => True
 | .ns l => ∃ m, h.Ns a m /\ ∀ x v, look x l = some v -> v = .unk \/ ∃ u, m x = some u /\ VR ρ v u
 | .inst C d => ∃ da, nth ρ.l d = some da /\ h.get? a = some (instObj C da)
 | .dict l => ∃ es n, h.get? a = some (dictOf es n) /\ DR ρ l es /\ a ≠ sysModules
 | .list l => ∃ vs n, h.get? a = some (listOf ⟨vs⟩ n) /\ FRs ρ.F l vs
 | .frl l => ∃ vs n, ρ.F a = some (listOf ⟨vs⟩ n) /\ FRs ρ.F l vs
 | .tuple l => ∃ vs n, h.get? a = some (tupOf ⟨vs⟩ n) /\ VRs ρ l vs
 | .deq => ∃ o vs, h.get? a = some o /\ o.cls = .type "collections.deque" /\ o.data = .fields vs /\ vs.size = 2
 | .sdict rest => ∃ es n, h.get? a = some (dictOf es n) /\ SD rest es /\ a ≠ sysModules
 | .cell v => ∃ u, h.IsCell a u /\ (v = .unk \/ ∃ x, u = some x /\ VR ρ v x)
theorem OR.out {ρ : Rho} {h : Heap} {a : Addr} {o : AO} (r : OR ρ h a o) : ORo ρ h a o := by
 cases r with
 | junk => exact trivial
 | ns a b => exact ⟨_, a, b⟩
 | inst a b => exact ⟨_, a, b⟩
 | dict a b c => exact ⟨_, _, a, b, c⟩
 | list a b => exact ⟨_, _, a, b⟩
 | frl a b => exact ⟨_, _, a, b⟩
 | tuple a b => exact ⟨_, _, a, b⟩
 | deq a b c d => exact ⟨_, _, a, b, c, d⟩
 | sdict a b c => exact ⟨_, _, a, b, c⟩
 | cell a b => exact ⟨_, a, b⟩
noncomputable def shut : AO -> Bool
 | .junk => true
 | .frl _ => true
 | _ => false
noncomputable def PJ : Addr := 903
noncomputable def tabObj (vs : Array Value) : Obj := { cls := .none, data := .fields vs }
noncomputable def JT (F : Fz) (h : Heap) : Prop := ∃ vs, h.get? PJ = some (tabObj vs) /\ TriplesOk vs.toList
noncomputable def BMA : Addr := 4
structure Gd (K : Frag) (h : Heap) : Prop where
 kin : K.In h
 bns : ∃ mb, h.Ns builtinsNs mb /\ ∀ x, x ≠ ("__name__" : Str) -> mb x = bootBuiltins x
 gns : ∃ mg, h.Ns mainGlobals mg
 lim : h.NoLimit
 smo : ∃ o, h.get? BMA = some o /\ o.cls = .type "module" /\ o.dict = some builtinsNs /\ o.data = .plain
theorem Gd.sys {K : Frag} {h : Heap} (G : Gd K h) : h.objs.size ≠ sysModules := fun z => by
 obtain ⟨mg, hg⟩ := G.gns
 have := hg.lt
 rw [z] at this
 exact absurd this (by decide)
noncomputable def Low (K : Frag) (a : Addr) : Prop := ((∃ o, K.lookup a = some o) \/ a = BMA) \/ a = builtinsNs \/ a = mainGlobals \/ a = cStatics \/ a = PJ
structure Lo (K : Frag) : Prop where
 npj : K.lookup PJ = none
theorem Gd.keeps {K : Frag} {h h' : Heap} (G : Gd K h) (L : Lo K) (k : ∀ b o, Low K b -> b ≠ PJ -> h.get? b = some o -> h'.get? b = some o) : Gd K h' := by
 have low : ∀ {a m}, Low K a -> a ≠ PJ -> h.Ns a m -> h'.Ns a m := fun l n ⟨o, es, ep, e, r⟩ => ⟨o, es, ep, k _ _ l n e, r⟩
 obtain ⟨mb, b, q⟩ := G.bns
 obtain ⟨mg, g⟩ := G.gns
 obtain ⟨mc, c, qc⟩ := G.lim
 obtain ⟨os, gs, gs2⟩ := G.smo
 exact ⟨fun a o e => k a o (.inl (.inl ⟨o, e⟩)) (fun z => by rw [z, L.npj] at e; cases e) (G.kin a o e), ⟨mb, low (.inr (.inl rfl)) (by decide) b, q⟩, ⟨mg, low (.inr (.inr (.inl rfl))) (by decide) g⟩, ⟨mc, low (.inr (.inr (.inr (.inl rfl)))) (by decide) c, qc⟩, os, k _ _ (.inl (.inr rfl)) (by decide) gs, gs2⟩
structure Rl (K : Frag) (σ : St) (ρ : Rho) (h : Heap) : Prop where
 gd : Gd K h
 len : ρ.l.length = σ.length
 nd : ∀ i j a o p, nth ρ.l i = some a -> nth ρ.l j = some a -> nth σ i = some o -> nth σ j = some p -> shut o = false -> shut p = false -> i = j
 lo : ∀ i a o, nth ρ.l i = some a -> nth σ i = some o -> shut o = false -> ¬ Low K a
 ob : ∀ i a o, nth ρ.l i = some a -> nth σ i = some o -> OR ρ h a o
 fin : FSub ρ.F h.get?
 xin : FSub ρ.X h.get?
 fz : ∀ i a o, nth ρ.l i = some a -> nth σ i = some o -> shut o = false -> ρ.F a = none /\ ρ.X a = none
 fx : ∀ a o, ρ.X a = some o -> ρ.F a = none
 jt : JT ρ.F h
 fr : ∀ i, i ∈ ρ.fs -> ∃ l, nth σ i = some (.ns l)
 pj : ρ.F PJ = none /\ ρ.X PJ = none
structure Ex (ρ : Rho) (h : Heap) (ρ' : Rho) (h' : Heap) : Prop where
 pre : ∃ t, ρ'.l = ρ.l ++ t /\ ∀ a ∈ t, a ∈ ρ.l \/ a = PJ \/ h.get? a = none
 fr : FSub ρ.F ρ'.F
 xs : ρ'.X = ρ.X
 es : ρ'.fs = ρ.fs
 keep : ∀ b o, h.get? b = some o -> b ∉ ρ.l -> b ≠ PJ -> h'.get? b = some o
 tab : ∀ vs, h.get? PJ = some (tabObj vs) -> ∃ more, h'.get? PJ = some (tabObj (vs ++ more))
theorem Ex.refl (ρ : Rho) (h : Heap) : Ex ρ h ρ h := ⟨⟨[], by simp, nofun⟩, .refl _, rfl, rfl, fun ι ι e ι ι => e, fun vs e => ⟨#[], by simp [e]⟩⟩
theorem Ex.trans {ρ1 ρ2 ρ3 : Rho} {h1 h2 h3 : Heap} (x : Ex ρ1 h1 ρ2 h2) (y : Ex ρ2 h2 ρ3 h3) : Ex ρ1 h1 ρ3 h3 := by
 obtain ⟨t, e, ht⟩ := x.pre
 obtain ⟨u, f, hu⟩ := y.pre
 refine ⟨⟨t ++ u, by rw [f, e, List.append_assoc], fun a ha => ?_⟩, x.fr.trans y.fr, y.xs.trans x.xs, y.es.trans x.es, fun b o q n z => ?_, fun vs q => ?_⟩
 · rcases List.mem_append.mp ha with ha | ha
   · exact ht a ha
   · rcases hu a ha with z | z | z
     · rw [e] at z
       rcases List.mem_append.mp z with z | z
       · exact .inl z
       · exact ht a z
     · exact .inr (.inl z)
     · by_cases m : a ∈ ρ1.l
       · exact .inl m
       by_cases m' : a = PJ
       · exact .inr (.inl m')
       cases q : h1.get? a with
       | none => exact .inr (.inr rfl)
       | some o => rw [x.keep a o q m m'] at z; cases z
 · refine y.keep b o (x.keep b o q n z) (fun m => ?_) z
   rw [e] at m
   rcases List.mem_append.mp m with m | m
   · exact n m
   · rcases ht b m with w | w | w
     · exact n w
     · exact z w
     · rw [w] at q; cases q
 · obtain ⟨m, q⟩ := x.tab vs q
   obtain ⟨m', q⟩ := y.tab _ q
   exact ⟨m ++ m', by rw [q, Array.append_assoc]⟩
structure Up (ρ ρ' : Rho) : Prop where
 pre : ∃ t, ρ'.l = ρ.l ++ t
 fr : FSub ρ.F ρ'.F
theorem Up.refl (ρ : Rho) : Up ρ ρ := ⟨⟨[], by simp⟩, .refl _⟩
theorem Ex.up {ρ ρ' : Rho} {h h' : Heap} (x : Ex ρ h ρ' h') : Up ρ ρ' := ⟨let ⟨t, e, _⟩ := x.pre; ⟨t, e⟩, x.fr⟩
theorem nth_up {ρ ρ' : Rho} {i : Nat} {a : Addr} (x : Up ρ ρ') (y : nth ρ.l i = some a) : nth ρ'.l i = some a := by
 obtain ⟨t, e⟩ := x.pre
 rw [e]; exact nth_append_left y
theorem VR.up {ρ ρ' : Rho} {a : AV} {v : Value} (x : Up ρ ρ') (h : VR ρ a v) : VR ρ' a v := by
 cases a with
 | ref i => obtain ⟨a, e, f⟩ := h; exact ⟨a, nth_up x e, f⟩
 | dat d => exact FR.mono x.fr h
 | _ => exact h
theorem VRs.up {ρ ρ' : Rho} {l : List AV} {vs : List Value} (x : Up ρ ρ') (h : VRs ρ l vs) : VRs ρ' l vs := by
 induction h with
 | nil => exact .nil
 | cons a _ ih => exact .cons (a.up x) ih
theorem DR.up {ρ ρ' : Rho} {l : List (Str × AV)} {vs : List DictEntry} (x : Up ρ ρ') (h : DR ρ l vs) : DR ρ' l vs := by
 induction h with
 | nil => exact .nil
 | cons k a _ ih => exact .cons k (a.up x) ih
theorem VR.ex {ρ ρ' : Rho} {h h' : Heap} {a : AV} {v : Value} (x : Ex ρ h ρ' h') (y : VR ρ a v) : VR ρ' a v := y.up x.up
theorem VRs.ex {ρ ρ' : Rho} {h h' : Heap} {a : List AV} {v : List Value} (x : Ex ρ h ρ' h') (y : VRs ρ a v) : VRs ρ' a v := y.up x.up
theorem nth_ex {ρ ρ' : Rho} {h h' : Heap} {i : Nat} {a : Addr} (x : Ex ρ h ρ' h') (y : nth ρ.l i = some a) : nth ρ'.l i = some a := nth_up x.up y
variable {K : Frag}
theorem OR.move {ρ ρ' : Rho} {h h' : Heap} {a : Addr} {o : AO} (x : OR ρ h a o) (u : Up ρ ρ') (e : ∀ q, h.get? a = some q -> h'.get? a = some q) : OR ρ' h' a o := by
 cases x with
 | junk => exact .junk
 | ns n f =>
  obtain ⟨o, es, ep, q, r⟩ := n
  refine .ns ⟨o, es, ep, e _ q, r⟩ fun x v hx => ?_
  rcases f x v hx with g | ⟨z, hu, hv⟩
  · exact .inl g
  · exact .inr ⟨z, hu, hv.up u⟩
 | inst n q => exact .inst (nth_up u n) (e _ q)
 | dict q d y => exact .dict (e _ q) (d.up u) y
 | list q d => exact .list (e _ q) (d.mono u.fr)
 | frl q d => exact .frl (u.fr _ _ q) (d.mono u.fr)
 | tuple q d => exact .tuple (e _ q) (d.up u)
 | deq q a b c => exact .deq (e _ q) a b c
 | sdict q d y => exact .sdict (e _ q) d y
 | cell c d =>
  obtain ⟨o, q, r⟩ := c
  refine .cell ⟨o, e _ q, r⟩ ?_
  rcases d with g | ⟨z, hu, hv⟩
  · exact .inl g
  · exact .inr ⟨z, hu, hv.up u⟩
theorem JT.move {F F' : Fz} {h h' : Heap} (x : JT F h) (k : FSub F F') (e : ∀ o, h.get? PJ = some o -> h'.get? PJ = some o) : JT F' h' := by
 obtain ⟨vs, q, r⟩ := x
 exact ⟨vs, e _ q, r⟩
theorem Gd.there {h : Heap} {F : Fz} (G : Gd K h) (J : JT F h) {a : Addr} (l : Low K a) : ∃ o, h.get? a = some o := by
 rcases l with (⟨o, e⟩ | rfl) | rfl | rfl | rfl | rfl
 · exact ⟨o, G.kin a o e⟩
 · obtain ⟨o, e, _⟩ := G.smo; exact ⟨o, e⟩
 · obtain ⟨mb, ⟨o, es, ep, e, r⟩, q⟩ := G.bns; exact ⟨o, e⟩
 · obtain ⟨mb, ⟨o, es, ep, e, r⟩⟩ := G.gns; exact ⟨o, e⟩
 · obtain ⟨mb, ⟨o, es, ep, e, r⟩, q⟩ := G.lim; exact ⟨o, e⟩
 · obtain ⟨vs, e, r⟩ := J; exact ⟨_, e⟩
theorem OR.there {ρ : Rho} {h : Heap} {a : Addr} {o : AO} (x : OR ρ h a o) (s : shut o = false) : ∃ q, h.get? a = some q := by
 cases x with
 | junk => cases s
 | ns n f => obtain ⟨o, es, ep, q, r⟩ := n; exact ⟨_, q⟩
 | inst n q => exact ⟨_, q⟩
 | dict q d => exact ⟨_, q⟩
 | list q d => exact ⟨_, q⟩
 | frl q d => cases s
 | tuple q d => exact ⟨_, q⟩
 | deq q a b c => exact ⟨_, q⟩
 | sdict q d => exact ⟨_, q⟩
 | cell c d => obtain ⟨o, q, r⟩ := c; exact ⟨_, q⟩
theorem OR.shutUp {ρ ρ' : Rho} {h h' : Heap} {a : Addr} {o : AO} (x : OR ρ h a o) (s : shut o = true) (u : Up ρ ρ') : OR ρ' h' a o := by
 cases x with
 | junk => exact .junk
 | frl q d => exact .frl (u.fr _ _ q) (d.mono u.fr)
 | _ => cases s
theorem Rl.grow {σ : St} {ρ : Rho} {h h' : Heap} (L : Lo K) (R : Rl K σ ρ h) (k : ∀ b o, h.get? b = some o -> h'.get? b = some o) : Rl K σ ρ h' :=
 ⟨R.gd.keeps L fun b o ι ι e => k b o e, R.len, R.nd, R.lo, fun i a o e f => (R.ob i a o e f).move (.refl _) fun ι e => k _ _ e,
  fun a o e => k _ _ (R.fin a o e), fun a o e => k _ _ (R.xin a o e), R.fz, R.fx, R.jt.move (.refl _) fun ι e => k _ _ e, R.fr, R.pj⟩
theorem Ex.grow {ρ : Rho} {h h' : Heap} (k : ∀ b o, h.get? b = some o -> h'.get? b = some o) : Ex ρ h ρ h' :=
 ⟨⟨[], by simp, nofun⟩, .refl _, rfl, rfl, fun b o e ι ι => k b o e, fun vs e => ⟨#[], by simp [k _ _ e]⟩⟩
theorem fr_set {σ : St} {fs : List Nat} {i : Nat} {o' : AO} (f : ∀ j, j ∈ fs -> ∃ l, nth σ j = some (.ns l)) (hk : i ∈ fs -> ∃ l, o' = .ns l) : ∀ j, j ∈ fs -> ∃ l, nth (setNth σ i o') j = some (.ns l) := by
 intro j hj
 obtain ⟨l, hl⟩ := f j hj
 have lt : j < (setNth σ i o').length := by rw [setNth_length]; exact nth_len hl
 obtain ⟨b, hb⟩ := nth_lt lt
 rcases nth_setNth hb with ⟨rfl, rfl⟩ | ⟨n, g⟩
 · obtain ⟨l', rfl⟩ := hk hj; exact ⟨l', hb⟩
 · rw [hl] at g; cases g; exact ⟨l, hb⟩
theorem Rl.nofs {σ : St} {ρ : Rho} {h : Heap} {i : Nat} {o : AO} (R : Rl K σ ρ h) (ho : nth σ i = some o) (hk : ∀ l, o ≠ .ns l) : i ∉ ρ.fs := fun m => by
 obtain ⟨l, e⟩ := R.fr i m
 rw [ho] at e; cases e; exact hk l rfl
theorem Rl.set {σ : St} {ρ : Rho} {h h' : Heap} {i : Nat} {a : Addr} {o o' : AO} (L : Lo K) (R : Rl K σ ρ h) (ha : nth ρ.l i = some a) (ho : nth σ i = some o) (hs : shut o = false) (s : ∀ b p, b ≠ a -> h.get? b = some p -> h'.get? b = some p) (q : OR ρ h' a o') (hk : ∀ l, o = .ns l -> ∃ l', o' = .ns l') : Rl K (setNth σ i o') ρ h' := by
 have na := R.lo i a o ha ho hs
 have low : ∀ b, Low K b -> b ≠ a := fun b l e => na (e ▸ l)
 obtain ⟨nf, nx⟩ := R.fz i a o ha ho hs
 refine ⟨R.gd.keeps L fun b o l ι e => s b _ (low b l) e, by rw [setNth_length]; exact R.len, fun j k b p r e f g t u v => ?_, fun j b p e f u => ?_, fun j b p e f => ?_,
  fun b o e => s b _ (fun z => by rw [z, nf] at e; cases e) (R.fin b o e), fun b o e => s b _ (fun z => by rw [z, nx] at e; cases e) (R.xin b o e), fun j b p e f g => ?_, R.fx, R.jt.move (.refl _) fun o e => s _ _ (low _ (.inr (.inr (.inr (.inr rfl))))) e, fr_set R.fr (fun m => ?_), R.pj⟩
 · rcases nth_setNth g with ⟨rfl, rfl⟩ | ⟨n, g2⟩
   · rcases nth_setNth t with ⟨rfl, rfl⟩ | ⟨n, t2⟩
     · rfl
     · rw [ha] at e; cases e; exact R.nd _ _ _ _ _ ha f ho t2 hs v
   · rcases nth_setNth t with ⟨rfl, rfl⟩ | ⟨n, t2⟩
     · rw [ha] at f; cases f; exact R.nd _ _ _ _ _ e ha g2 ho u hs
     · exact R.nd _ _ _ _ _ e f g2 t2 u v
 · rcases nth_setNth f with ⟨rfl, rfl⟩ | ⟨n, f⟩
   · rw [ha] at e; cases e; exact na
   · exact R.lo j b p e f u
 · rcases nth_setNth f with ⟨rfl, rfl⟩ | ⟨n, f⟩
   · rw [ha] at e; cases e; exact q
   · cases t : shut p with
     | true => exact (R.ob j b p e f).shutUp t (.refl _)
     | false =>
      have nb : b ≠ a := fun z => n (R.nd _ _ _ _ _ ha (z ▸ e) ho f hs t)
      exact (R.ob j b p e f).move (.refl _) fun q e => s b _ nb e
 · rcases nth_setNth f with ⟨rfl, rfl⟩ | ⟨n, f⟩
   · rw [ha] at e; cases e; exact ⟨nf, nx⟩
   · exact R.fz j b p e f g
 · obtain ⟨l, e⟩ := R.fr i m
   rw [ho] at e; cases e; exact hk l rfl
theorem Rl.npj {σ : St} {ρ : Rho} {h : Heap} {i : Nat} {a : Addr} {o : AO} (R : Rl K σ ρ h) (ha : nth ρ.l i = some a) (ho : nth σ i = some o) (hs : shut o = false) : a ≠ PJ := fun z => R.lo i a o ha ho hs (.inr (.inr (.inr (.inr z))))
theorem Ex.set {ρ : Rho} {h h' : Heap} {i : Nat} {a : Addr} (ha : nth ρ.l i = some a) (n : a ≠ PJ) (s : ∀ b p, b ≠ a -> h.get? b = some p -> h'.get? b = some p) : Ex ρ h ρ h' :=
 ⟨⟨[], by simp, nofun⟩, .refl _, rfl, rfl, fun b o e n ι => s b _ (fun z => n (z ▸ nth_mem ha)) e, fun vs e => ⟨#[], by simp [s PJ _ (Ne.symm n) e]⟩⟩
theorem sameBut_keep {a : Addr} {h h' : Heap} (s : Heap.SameBut a h h') : ∀ b p, b ≠ a -> h.get? b = some p -> h'.get? b = some p := fun b p n e => (s.2 b n).trans e
theorem Rl.say {σ : St} {ρ : Rho} {h : Heap} {i : Nat} {o' : AO} (R : Rl K σ ρ h) (q : ∀ a o, nth ρ.l i = some a -> nth σ i = some o -> OR ρ h a o' /\ (shut o' = false -> shut o = false)) (hk : i ∈ ρ.fs -> ∃ l, o' = .ns l) : Rl K (setNth σ i o') ρ h := by
 have lk : ∀ {j : Nat} {a : Addr}, i = j -> nth ρ.l j = some a -> ∃ o, nth σ i = some o := fun e f => nth_lt (by have := nth_len f; rw [R.len] at this; rw [e]; exact this)
 have lo : ∀ {j b p}, nth ρ.l j = some b -> nth (setNth σ i o') j = some p -> shut p = false -> ∃ p', nth σ j = some p' /\ shut p' = false := fun e f g => by
  rcases nth_setNth f with ⟨rfl, rfl⟩ | ⟨n, f⟩
  · obtain ⟨o, ho⟩ := lk rfl e
    exact ⟨o, ho, (q _ o e ho).2 g⟩
  · exact ⟨_, f, g⟩
 refine ⟨R.gd, by rw [setNth_length]; exact R.len, fun j k b p r e f g t u v => ?_, fun j b p e f u => ?_, fun j b p e f => ?_, R.fin, R.xin, fun j b p e f g => ?_, R.fx, R.jt, fr_set R.fr hk, R.pj⟩
 · obtain ⟨p', g', u'⟩ := lo e g u
   obtain ⟨r', t', v'⟩ := lo f t v
   exact R.nd _ _ _ _ _ e f g' t' u' v'
 · obtain ⟨p', g', u'⟩ := lo e f u
   exact R.lo _ _ _ e g' u'
 · rcases nth_setNth f with ⟨rfl, rfl⟩ | ⟨n, f⟩
   · obtain ⟨o, ho⟩ := lk rfl e
     exact (q b o e ho).1
   · exact R.ob j b p e f
 · obtain ⟨p', g', u'⟩ := lo e f g
   exact R.fz _ _ _ e g' u'
theorem Rl.drop {σ : St} {ρ : Rho} {h : Heap} {i : Nat} (R : Rl K σ ρ h) (n : i ∉ ρ.fs) : Rl K (setNth σ i .junk) ρ h := R.say (fun ι ι ι ι => ⟨.junk, nofun⟩) fun m => absurd m n
theorem fresh_of {G : Fz} {h : Heap} {a : Addr} (g : FSub G h.get?) (z : h.get? a = none) : G a = none := by
 cases e : G a with
 | none => rfl
 | some o => rw [g _ _ e] at z; cases z
theorem Rl.push {σ : St} {ρ : Rho} {h h' : Heap} {a : Addr} {o : AO} (L : Lo K) (R : Rl K σ ρ h) (k : ∀ b o, h.get? b = some o -> h'.get? b = some o) (z : h.get? a = none)
 (q : OR ⟨ρ.l ++ [a], ρ.F, ρ.X, ρ.fs⟩ h' a o) : Rl K (σ ++ [o]) ⟨ρ.l ++ [a], ρ.F, ρ.X, ρ.fs⟩ h' := by
 have u : Up ρ ⟨ρ.l ++ [a], ρ.F, ρ.X, ρ.fs⟩ := ⟨⟨[a], rfl⟩, .refl _⟩
 have cs : ∀ {i b p}, nth (ρ.l ++ [a]) i = some b -> nth (σ ++ [o]) i = some p -> (nth ρ.l i = some b /\ nth σ i = some p) \/ (i = ρ.l.length /\ b = a /\ p = o) := fun e f => by
  rcases nth_append_inv e with e | ⟨ei, eb⟩
  · rcases nth_append_inv f with f | ⟨fi, _⟩
    · exact .inl ⟨e, f⟩
    · have := nth_len e
      rw [fi, R.len] at this
      exact absurd this (Nat.lt_irrefl _)
  · rcases nth_append_inv f with f | ⟨_, fp⟩
    · have := nth_len f
      rw [ei, R.len] at this
      exact absurd this (Nat.lt_irrefl _)
    · exact .inr ⟨ei, eb, fp⟩
 have old : ∀ {i b p}, nth ρ.l i = some b -> nth σ i = some p -> shut p = false -> b ≠ a := fun e f s w => by
  obtain ⟨o, x⟩ := (R.ob _ _ _ e f).there s
  rw [w, z] at x; cases x
 refine ⟨R.gd.keeps L fun b o ι ι e => k b o e, by simp [R.len], fun i j b p r e f g t s v => ?_, fun i b p e f s => ?_, fun i b p e f => ?_, fun b o e => k _ _ (R.fin b o e), fun b o e => k _ _ (R.xin b o e), fun i b p e f s => ?_, R.fx, R.jt.move (.refl _) fun ι e => k _ _ e, (fun i m => let ⟨l, e⟩ := R.fr i m; ⟨l, nth_append_left e⟩), R.pj⟩
 · rcases cs e g with ⟨e2, g2⟩ | ⟨i1, b1, p1⟩
   · rcases cs f t with ⟨f2, t2⟩ | ⟨i2, b2, p2⟩
     · exact R.nd _ _ _ _ _ e2 f2 g2 t2 s v
     · exact absurd b2 (old e2 g2 s)
   · rcases cs f t with ⟨f2, t2⟩ | ⟨i2, _, _⟩
     · exact absurd b1 (old f2 t2 v)
     · rw [i1, i2]
 · rcases cs e f with ⟨e, f⟩ | ⟨rfl, rfl, rfl⟩
   · exact R.lo _ _ _ e f s
   · intro l
     obtain ⟨o, x⟩ := R.gd.there R.jt l
     rw [z] at x; cases x
 · rcases cs e f with ⟨e, f⟩ | ⟨rfl, rfl, rfl⟩
   · exact (R.ob i b p e f).move u fun q e => k _ _ e
   · exact q
 · rcases cs e f with ⟨e, f⟩ | ⟨rfl, rfl, rfl⟩
   · exact R.fz i b p e f s
   · exact ⟨fresh_of R.fin z, fresh_of R.xin z⟩
theorem Ex.push {ρ : Rho} {h h' : Heap} {a : Addr} (k : ∀ b o, h.get? b = some o -> h'.get? b = some o) (z : h.get? a = none) : Ex ρ h ⟨ρ.l ++ [a], ρ.F, ρ.X, ρ.fs⟩ h' :=
 ⟨⟨[a], rfl, fun b hb => by rw [List.mem_singleton] at hb; subst hb; exact .inr (.inr z)⟩, .refl _, rfl, rfl, fun b o e ι ι => k b o e, fun vs e => ⟨#[], by simp [k _ _ e]⟩⟩
noncomputable def Fz.add (F : Fz) (a : Addr) (o : Obj) : Fz := fun b => if b = a then some o else F b
theorem Fz.add_self (F : Fz) (a : Addr) (o : Obj) : F.add a o a = some o := if_pos rfl
theorem Fz.add_ne {F : Fz} {a b : Addr} {o : Obj} (n : b ≠ a) : F.add a o b = F b := if_neg n
theorem Fz.add_sub {F : Fz} {a : Addr} {o : Obj} (n : F a = none) : FSub F (F.add a o) := fun b q e => by
 rw [Fz.add_ne fun z => by rw [z, n] at e; cases e]; exact e
theorem Fz.add_in {F : Fz} {a : Addr} {o : Obj} {h : Heap} (k : FSub F h.get?) (g : h.get? a = some o) : FSub (F.add a o) h.get? := fun b q e => by
 by_cases w : b = a
 · subst w; rw [Fz.add_self] at e; cases e; exact g
 · rw [Fz.add_ne w] at e; exact k b q e
theorem Rl.frzNew {σ : St} {ρ : Rho} {h h' : Heap} {a : Addr} {o : Obj} (L : Lo K) (R : Rl K σ ρ h) (k : ∀ b o, h.get? b = some o -> h'.get? b = some o) (z : h.get? a = none) (g : h'.get? a = some o) :
 Rl K σ ⟨ρ.l, ρ.F.add a o, ρ.X, ρ.fs⟩ h' /\ Ex ρ h ⟨ρ.l, ρ.F.add a o, ρ.X, ρ.fs⟩ h' := by
 have sub : FSub ρ.F (ρ.F.add a o) := Fz.add_sub (fresh_of R.fin z)
 have u : Up ρ ⟨ρ.l, ρ.F.add a o, ρ.X, ρ.fs⟩ := ⟨⟨[], by simp⟩, sub⟩
 refine ⟨⟨R.gd.keeps L fun b o ι ι e => k b o e, R.len, R.nd, R.lo, fun i b p e f => (R.ob i b p e f).move u fun ι e => k _ _ e, Fz.add_in (fun b o e => k _ _ (R.fin b o e)) g, fun b q e => k _ _ (R.xin b q e), fun i b p e f s => ?_, fun b p e => ?_, R.jt.move sub fun ι e => k _ _ e, R.fr, (by
  show ρ.F.add a o PJ = none
  rw [Fz.add_ne]
  · exact R.pj.1
  · intro z2
    obtain ⟨vs, ej, _⟩ := R.jt
    rw [z2, z] at ej; cases ej), R.pj.2⟩,
  ⟨⟨[], by simp, nofun⟩, sub, rfl, rfl, fun b o e ι ι => k b o e, fun vs e => ⟨#[], by simp [k _ _ e]⟩⟩⟩
 · obtain ⟨x, y⟩ := R.fz i b p e f s
   refine ⟨?_, y⟩
   show ρ.F.add a o b = none
   rw [Fz.add_ne]
   · exact x
   · intro w
     obtain ⟨q, x⟩ := (R.ob _ _ _ e f).there s
     rw [w, z] at x; cases x
 · show ρ.F.add a o b = none
   rw [Fz.add_ne]
   · exact R.fx b p e
   · intro w
     have x := R.xin b p e
     rw [w, z] at x; cases x
theorem Rl.frzAt {σ : St} {ρ : Rho} {h : Heap} {i : Nat} {a : Addr} {o' p : AO} {o : Obj} (R : Rl K σ ρ h) (ha : nth ρ.l i = some a) (ho : nth σ i = some p) (hs : shut p = false) (g : h.get? a = some o) (s' : shut o' = true)
 (q : OR ⟨ρ.l, ρ.F.add a o, ρ.X, ρ.fs⟩ h a o') (hk : ∀ l, p ≠ .ns l) : Rl K (setNth σ i o') ⟨ρ.l, ρ.F.add a o, ρ.X, ρ.fs⟩ h /\ Ex ρ h ⟨ρ.l, ρ.F.add a o, ρ.X, ρ.fs⟩ h := by
 obtain ⟨nf, nx⟩ := R.fz i a p ha ho hs
 have sub : FSub ρ.F (ρ.F.add a o) := Fz.add_sub nf
 have u : Up ρ ⟨ρ.l, ρ.F.add a o, ρ.X, ρ.fs⟩ := ⟨⟨[], by simp⟩, sub⟩
 have lo : ∀ {j p}, nth (setNth σ i o') j = some p -> shut p = false -> i ≠ j /\ nth σ j = some p := fun f s => by
  rcases nth_setNth f with ⟨rfl, rfl⟩ | ⟨n, f⟩
  · rw [s'] at s; cases s
  · exact ⟨n, f⟩
 refine ⟨⟨R.gd, by rw [setNth_length]; exact R.len, fun j k b p r e f g t u v => R.nd _ _ _ _ _ e f (lo g u).2 (lo t v).2 u v, fun j b p e f s => R.lo _ _ _ e (lo f s).2 s, fun j b p e f => ?_, Fz.add_in R.fin g, R.xin, fun j b r e f s => ?_, fun b p e => ?_, R.jt.move sub fun ι e => e, fr_set R.fr (fun m => absurd m (R.nofs ho hk)), (by
  show ρ.F.add a o PJ = none
  rw [Fz.add_ne (fun z2 => R.lo i a p ha ho hs (.inr (.inr (.inr (.inr z2.symm)))))]
  exact R.pj.1), R.pj.2⟩,
  ⟨⟨[], by simp, nofun⟩, sub, rfl, rfl, fun b o e ι ι => e, fun vs e => ⟨#[], by simp [e]⟩⟩⟩
 · rcases nth_setNth f with ⟨rfl, rfl⟩ | ⟨n, f⟩
   · have e : nth ρ.l i = some b := e
     rw [ha] at e; cases e; exact q
   · exact (R.ob j b p e f).move u fun ι e => e
 · obtain ⟨n, f⟩ := lo f s
   obtain ⟨x, y⟩ := R.fz j b r e f s
   refine ⟨?_, y⟩
   show ρ.F.add a o b = none
   rw [Fz.add_ne]
   · exact x
   · intro w; subst w; exact n (R.nd _ _ _ _ _ ha e ho f hs s)
 · show ρ.F.add a o b = none
   rw [Fz.add_ne]
   · exact R.fx b p e
   · intro w; subst w; rw [nx] at e; cases e
theorem Rl.lock {σ : St} {ρ : Rho} {h : Heap} {i : Nat} {a : Addr} {p : AO} {o : Obj} (R : Rl K σ ρ h) (ha : nth ρ.l i = some a) (ho : nth σ i = some p) (hs : shut p = false) (g : h.get? a = some o) (nfs : i ∉ ρ.fs) :
 Rl K (setNth σ i .junk) ⟨ρ.l, ρ.F, ρ.X.add a o, ρ.fs⟩ h := by
 obtain ⟨nf, nx⟩ := R.fz i a p ha ho hs
 have u : Up ρ ⟨ρ.l, ρ.F, ρ.X.add a o, ρ.fs⟩ := ⟨⟨[], by simp⟩, .refl _⟩
 have lo : ∀ {j p}, nth (setNth σ i .junk) j = some p -> shut p = false -> i ≠ j /\ nth σ j = some p := fun f s => by
  rcases nth_setNth f with ⟨rfl, rfl⟩ | ⟨n, f⟩
  · cases s
  · exact ⟨n, f⟩
 refine ⟨R.gd, by rw [setNth_length]; exact R.len, fun j k b p r e f g t u v => R.nd _ _ _ _ _ e f (lo g u).2 (lo t v).2 u v, fun j b p e f s => R.lo _ _ _ e (lo f s).2 s, fun j b p e f => ?_, R.fin, Fz.add_in R.xin g, fun j b r e f s => ?_, fun b p e => ?_, R.jt, fr_set R.fr (fun m => absurd m nfs), R.pj.1, (by
  show ρ.X.add a o PJ = none
  rw [Fz.add_ne (fun z2 => R.lo i a p ha ho hs (.inr (.inr (.inr (.inr z2.symm)))))]
  exact R.pj.2)⟩
 · rcases nth_setNth f with ⟨rfl, rfl⟩ | ⟨n, f⟩
   · exact .junk
   · exact (R.ob j b p e f).move u fun ι e => e
 · obtain ⟨n, f⟩ := lo f s
   obtain ⟨x, y⟩ := R.fz j b r e f s
   refine ⟨x, ?_⟩
   show ρ.X.add a o b = none
   rw [Fz.add_ne]
   · exact y
   · intro w; subst w; exact n (R.nd _ _ _ _ _ ha e ho f hs s)
 · by_cases w : b = a
   · subst w; exact nf
   · have e : ρ.X.add a o b = some p := e
     rw [Fz.add_ne w] at e; exact R.fx b p e
theorem Rl.unlock {σ : St} {l : List Addr} {F X : Fz} {fs : List Nat} {h : Heap} {i : Nat} {a : Addr} {o' : AO} {o : Obj} (R : Rl K σ ⟨l, F, X.add a o, fs⟩ h) (ha : nth l i = some a) (nx : X a = none) (nl : ¬ Low K a) (q : OR ⟨l, F, X, fs⟩ h a o') : Rl K (setNth σ i o') ⟨l, F, X, fs⟩ h := by
 have nf : F a = none := R.fx a o (Fz.add_self _ _ _)
 have sub : FSub X (X.add a o) := Fz.add_sub nx
 have u : Up ⟨l, F, X.add a o, fs⟩ ⟨l, F, X, fs⟩ := ⟨⟨[], by simp⟩, .refl _⟩
 have ne : ∀ {j b p}, nth l j = some b -> nth σ j = some p -> shut p = false -> b ≠ a := fun e f s w => by
  have this : X.add a o _ = none := (R.fz _ _ _ e f s).2
  rw [w, Fz.add_self] at this; cases this
 refine ⟨R.gd, by rw [setNth_length]; exact R.len, fun j k b p r e f g t s v => ?_, fun j b p e f s => ?_, fun j b p e f => ?_, R.fin, fun b p e => R.xin b p (sub b p e), fun j b r e f s => ?_, fun b p e => R.fx b p (sub b p e), R.jt, fr_set R.fr (fun m => ?_), R.pj.1, (by
  cases ex : X PJ with
  | none => exact ex
  | some p => have := R.pj.2; rw [show (⟨l, F, X.add a o, fs⟩ : Rho).X PJ = some p from sub _ _ ex] at this; cases this)⟩
 · rcases nth_setNth g with ⟨i1, p1⟩ | ⟨n, g2⟩
   · rcases nth_setNth t with ⟨i2, p2⟩ | ⟨n, t2⟩
     · rw [<- i1, <- i2]
     · subst i1
       exact absurd (Option.some.inj ((show nth l i = some b from e).symm.trans ha)) (ne f t2 v)
   · rcases nth_setNth t with ⟨i2, p2⟩ | ⟨n, t2⟩
     · subst i2
       exact absurd (Option.some.inj ((show nth l i = some b from f).symm.trans ha)) (ne e g2 s)
     · exact R.nd _ _ _ _ _ e f g2 t2 s v
 · rcases nth_setNth f with ⟨rfl, rfl⟩ | ⟨n, f⟩
   · have e : nth l i = some b := e
     rw [ha] at e; cases e; exact nl
   · exact R.lo _ _ _ e f s
 · rcases nth_setNth f with ⟨rfl, rfl⟩ | ⟨n, f⟩
   · have e : nth l i = some b := e
     rw [ha] at e; cases e; exact q
   · exact (R.ob j b p e f).move u fun ι e => e
 · rcases nth_setNth f with ⟨rfl, rfl⟩ | ⟨n, f⟩
   · have e : nth l i = some b := e
     rw [ha] at e; cases e; exact ⟨nf, nx⟩
   · obtain ⟨x, y⟩ := R.fz j b r e f s
     refine ⟨x, ?_⟩
     show X b = none
     have y : X.add a o b = none := y
     rw [Fz.add_ne (ne e f s)] at y; exact y
 · obtain ⟨l', e⟩ := R.fr i m
   exact absurd rfl (ne ha e rfl)
noncomputable def FrA (A : Around) (ρ : Rho) : Prop := ∃ l, A.frames = some l /\ ∀ env ∈ l, env.scope.kind ≠ .module /\ (0 ∈ ρ.fs \/ ∃ i L, i ∈ ρ.fs /\ nth ρ.l i = some L /\ env.frame = some L)
theorem FrA.up {A : Around} {ρ ρ' : Rho} (f : FrA A ρ) (u : Up ρ ρ') (e : ρ'.fs = ρ.fs) : FrA A ρ' := by
 obtain ⟨l, h, k⟩ := f
 refine ⟨l, h, fun env he => ?_⟩
 obtain ⟨hk, z | ⟨i, L, hi, hL, hf⟩⟩ := k env he
 · exact ⟨hk, .inl (by rw [e]; exact z)⟩
 exact ⟨hk, .inr ⟨i, L, by rw [e]; exact hi, nth_up u hL, hf⟩⟩
theorem FrA.ex {A : Around} {ρ ρ' : Rho} {h h' : Heap} (f : FrA A ρ) (x : Ex ρ h ρ' h') : FrA A ρ' := f.up x.up x.es
theorem FrA.ofL {A : Around} {ρ ρ' : Rho} (f : FrA A ρ) (q : ρ'.l = ρ.l) (e : ρ'.fs = ρ.fs) : FrA A ρ' := by
 obtain ⟨l, h, k⟩ := f
 refine ⟨l, h, fun env he => ?_⟩
 obtain ⟨hk, z | ⟨i, L, hi, hL, hf⟩⟩ := k env he
 · exact ⟨hk, .inl (by rw [e]; exact z)⟩
 exact ⟨hk, .inr ⟨i, L, by rw [e]; exact hi, by rw [q]; exact hL, hf⟩⟩
structure EnvR (A : Around) (c : Cx) (ρ : Rho) (env : Env) : Prop where
 sc : env.scope = c.scope
 fn : c.scope.kind = .function
 loc : nth ρ.l c.fid = some env.locals
 gl : env.globals = mainGlobals
 bl : env.builtins = builtinsNs
 ce : ∀ x i, look x c.cells = some i -> ∃ a, env.cells.lookup x = some a /\ nth ρ.l i = some a
 fa : FrA A ρ
 hd : ∃ e0 l, A.frames = some (e0 :: l) /\ e0.frame = env.frame
theorem EnvR.ex {A : Around} {c : Cx} {ρ ρ' : Rho} {h h' : Heap} {env : Env} (x : Ex ρ h ρ' h') (e : EnvR A c ρ env) : EnvR A c ρ' env := ⟨e.sc, e.fn, nth_ex x e.loc, e.gl, e.bl, (fun y i h => let ⟨a, p, q⟩ := e.ce y i h; ⟨a, p, nth_ex x q⟩), e.fa.ex x, e.hd⟩
structure Gs (s s' : Shared) : Prop where
 os : s'.os = s.os
 gb : AllBare s.gens -> AllBare s'.gens
theorem Gs.refl (s : Shared) : Gs s s := ⟨rfl, id⟩
theorem Gs.trans {s s' s'' : Shared} (x : Gs s s') (y : Gs s' s'') : Gs s s'' := ⟨y.os.trans x.os, fun h => y.gb (x.gb h)⟩
theorem Gs.ht (s : Shared) (h : Heap) (t : Nat) : Gs s { s with heap := h, toks := t } := ⟨rfl, id⟩
theorem Gs.hh (s : Shared) (h : Heap) : Gs s { s with heap := h } := ⟨rfl, id⟩
theorem Gs.tt (s : Shared) (t : Nat) : Gs s { s with toks := t } := ⟨rfl, id⟩
noncomputable def Room (n : Nat) (A : Around) : Prop := A.depth + n < recursionLimit /\ A.units + 8 * n < cLine /\ A.handled = none
theorem look_eq {α : Type} {x : Str} : ∀ {l : List (Str × α)}, look x l = l.lookup x
 | [] => rfl
 | p :: r => by
  obtain ⟨y, v⟩ := p
  show (match seq x y with | true => some v | false => look x r) = (match x == y with | true => some v | false => r.lookup x)
  cases q : seq x y with
  | true => rw [seq_iff.mp q, show (y == y) = true from beq_self_eq_true y]
  | false => rw [show (x == y) = false from beq_eq_false_iff_ne.mpr (seq_false.mp q)]; exact look_eq
structure ClsOk (K : Frag) (C : Addr) : Prop where
 ga : findIn K (.ref C) "__getattribute__" = some (some (.builtin "object.__getattribute__"))
 ge : findIn K (.ref C) "__getattr__" = some none
 sa : findIn K (.ref C) "__setattr__" = some (some (.builtin "object.__setattr__"))
 po : plainOver K C = true
 hd : hasDictIn K C = true
 sq : noSeq K C = true
inductive AtOk (K : Frag) (C : Addr) (x : Str) : At -> Prop
 | own {attr} : findIn K (.ref C) x = some attr -> noGet K attr = true -> takerIn K C x = some none -> AtOk K C x .own
 | meth {f} : findIn K (.ref C) x = some (some (.ref f)) -> isFn K (.ref f) = true -> keepIn K (.ref f) = true -> AtOk K C x (.meth f)
 | prop {p f rest} : findIn K (.ref C) x = some (some (.ref p)) -> specialIn K (.ref p) "__get__" = some (some (.builtin "property.__get__")) -> takesIn K (.ref p) = some true -> recIn K p "property" = some (.ref f :: rest) -> AtOk K C x (.prop f)
section dicts
variable {ρ : Rho} {l : List (Str × AV)} {es : List DictEntry} {x : Str}
theorem isStr_str (y : Str) (t : Tok) (x : Str) : (Value.str y t).isStr x = (y == x) := rfl
set_option tactic.hygienic true in
theorem DR.find (D : DR ρ l es) {a : AV} (h : look x l = some a) : ∃ u, getL x es = some (some u) /\ VR ρ a u := by
 induction D with
 | nil => cases h
 | @cons y b l e es t k v _ ih =>
  unfold look at h
  unfold getL
  rw [List.find?_cons, k, isStr_str]
  cases q : seq x y with
  | true =>
   have z := seq_iff.mp q
   subst z
   rw [q] at h
   cases h
   rw [show (x == x) = true from beq_self_eq_true x]
   exact ⟨_, rfl, v⟩
  | false =>
   rw [q] at h
   have z : (y == x) = false := beq_eq_false_iff_ne.mpr (fun w => seq_false.mp q w.symm)
   rw [z]
   obtain ⟨u, hu, hv⟩ := ih h
   refine ⟨u, ?_, hv⟩
   unfold getL at hu
   dsimp only
   split at hu
   · rename_i e' he'; rw [he']; exact hu
   · split at hu <;> cases hu
theorem DR.refs (D : DR ρ l es) : es.any (·.refKey) = false := by
 induction D with
 | nil => rfl
 | @cons y b l e es t k v _ ih => rw [List.any_cons, ih, Bool.or_false]; unfold DictEntry.refKey; rw [k]
theorem DR.miss (D : DR ρ l es) (h : look x l = none) : getL x es = some none := by
 have r := D.refs
 unfold getL
 rw [r]
 have : es.find? (·.key.isStr x) = none := by
  clear r
  induction D with
  | nil => rfl
  | @cons y b l e es t k v _ ih =>
   unfold look at h
   cases q : seq x y with
   | true => rw [q] at h; cases h
   | false =>
    rw [q] at h
    have z : (y == x) = false := beq_eq_false_iff_ne.mpr (fun w => seq_false.mp q w.symm)
    rw [List.find?_cons, k, isStr_str, z]; exact ih h
 rw [this]; rfl
theorem DR.some (D : DR ρ l es) : (getL x es).isSome = true := by
 cases h : look x l with
 | none => rw [D.miss h]; rfl
 | some a => obtain ⟨u, hu, _⟩ := D.find h; rw [hu]; rfl
theorem DR.put {a : AV} {v : Value} {hs : Int} {t : Tok} (D : DR ρ l es) (hv : VR ρ a v) : DR ρ (put x a l) (putL x hs (.str x t) v es) := by
 induction D with
 | nil => exact .cons rfl hv .nil
 | @cons y b l e es t' k v' d ih =>
  unfold Mine.put putL
  rw [k, isStr_str]
  cases q : seq x y with
  | true =>
   have z := seq_iff.mp q
   subst z
   rw [show (x == x) = true from beq_self_eq_true x, if_pos rfl]
   exact .cons rfl hv d
  | false =>
   have z : (y == x) = false := beq_eq_false_iff_ne.mpr (fun w => seq_false.mp q w.symm)
   rw [z, if_neg Bool.false_ne_true]
   exact .cons k v' ih
theorem DR.length (D : DR ρ l es) : es.length = l.length := by
 induction D with
 | nil => rfl
 | cons _ _ _ ih => exact congrArg Nat.succ ih
end dicts
variable {K : Frag} {prog : Program} {w : World}
theorem inst_at {σ : St} {ρ : Rho} {h : Heap} {i d : Nat} {C : Addr} {l : List (Str × AV)} {a : Addr} (R : Rl K σ ρ h) (hi : nth σ i = some (.inst C d)) (hd : nth σ d = some (.dict l)) (ha : nth ρ.l i = some a) :
 ∃ da es n, nth ρ.l d = some da /\ InstAt h a (instObj C da) C (some (dictOf es n)) /\ DR ρ l es /\ h.get? da = some (dictOf es n) := by
 obtain ⟨da, e, f⟩ := (R.ob i a _ ha hi).out
 cases R.ob d da _ e hd with
 | @dict _ es n g D _ => exact ⟨da, es, n, e, ⟨f, rfl, rfl, g⟩, D, g⟩
theorem instOf_eq {σ : St} {i : Nat} {p : Addr × Nat} (h : instOf σ i = some p) : nth σ i = some (.inst p.1 p.2) := inO_inv h
theorem dictOfA_eq {σ : St} {i : Nat} {l : List (Str × AV)} (h : dictOfA σ i = some l) : nth σ i = some (.dict l) := dcO_inv h
theorem nsOf_eq {σ : St} {i : Nat} {l : List (Str × AV)} (h : nsOf σ i = some l) : nth σ i = some (.ns l) := nsO_inv h
theorem handed_of {ρ : Rho} {a : AV} {u : Value} (h : handV a = true) (v : VR ρ a u) : handedIn u = true := by
 cases a with
 | raw x => have e : u = x := v; subst e; cases u <;> first | rfl | cases h
 | none => cases (show u = .none from v); rfl
 | bool b => cases (show u = .bool b from v); rfl
 | int i => obtain ⟨t, rfl⟩ := v; rfl
 | str i => obtain ⟨t, rfl⟩ := v; rfl
 | ref i => obtain ⟨t, _, rfl⟩ := v; rfl
 | dat d => cases v <;> rfl
 | unk => cases h
theorem get_own_A {A : Around} {E : Value -> Shared -> Prop} {s : Shared} {x C da : Addr} {es : List DictEntry} {n : Nat} {name : Str} {attr : Option Value} {v : Value} {expr : Bool} {Q : Value -> Shared -> Prop} (X : K.In s.heap) (O : ClsOk K C)
 (I : InstAt s.heap x (instObj C da) C (some (dictOf es n))) (ha : findIn K (.ref C) name = some attr) (hn : noGet K attr = true) (hl : getL name es = some (some v)) (hv : handedIn v = true)
 (h : Q v { s with toks := s.toks + 1 }) : wpAny (model prog w) A (getAttr (.ref x) name expr) Q E s :=
 get_value X I O.ga (findObj_own O.hd ha hn hl) hv h
theorem putL_len (name : Str) (hs : Int) (k v : Value) : ∀ es : List DictEntry, (putL name hs k v es).length <= es.length + 1
 | [] => Nat.le_refl _
 | e :: r => by
  unfold putL
  split
  · exact Nat.le_succ _
  · exact Nat.succ_le_succ (putL_len name hs k v r)
set_option tactic.hygienic true in
theorem osa_dict_A {A : Around} {R : Result -> Shared -> Prop} {s : Shared} {x C da : Addr} {es : List DictEntry} {n : Nat} {name : Str} {tk : Tok} {v : Value} (X : K.In s.heap) (O : ClsOk K C)
 (I : InstAt s.heap x (instObj C da) C (some (dictOf es n))) (D : s.heap.get? da = some (dictOf es n)) (ht : takerIn K C name = some none) (hl : (getL name es).isSome = true) (hz : es.length <= 900)
 (h : ∀ h' tk hs t n', Heap.SameBut da s.heap h' -> h'.get? da = some (dictOf (putL name hs (.str name t) v es) n') -> R (.ok (.ret .none)) { s with heap := h', toks := tk }) :
 codeAny (model prog w) A (.call (.builtin "object.__setattr__") ⟨[.ref x, .str name tk, v], []⟩) R s := by
 refine osa_open X I O.po ht fun b => ?_
 obtain ⟨cd, hc, hd'⟩ := any_some O.hd
 have hx := I.at_
 refine wpAny_bind (wpAny_pure (wpAny_bind (wpAny_bind (wpAny_loadPart hx (wpAny_bind ((looks_clsIn X hc).here ?_))))))
 rw [hd']
 refine wpAny_pure (a := some da) (wpAny_bind (wpAny_pure (wpAny_bind ?_)))
 unfold nsSet
 refine wpAny_bind (wpAny_bind (wpAny_askSetting (wpAny_pure (wpAny_bind (wpAny_mkText (wpAny_bind (wpAny_loadPart D ?_)))))))
 dsimp only
 have c : (!es.toArray.any (·.key.isStr name) && es.toArray.any (·.refKey)) = false := by
  rw [List.any_toArray, List.any_toArray]
  unfold getL at hl
  split at hl
  · rename_i en he
    rw [List.any_eq_true.mpr ⟨en, List.mem_of_find?_eq_some he, List.find?_some he⟩]; rfl
  · split at hl
    · cases hl
    · rename_i z; rw [Bool.not_eq_true] at z; rw [z, Bool.and_false]
 rw [aRefKeyMayBeTheName_at, c]
 have e := putName_dict name (PyData.keyHash w.params name) (.str name s.toks) v es n
 have U : (s.heap.update da (Obj.putName name (PyData.keyHash w.params name) (.str name s.toks) v)).get? da = some (dictOf (putL name (PyData.keyHash w.params name) (.str name s.toks) v es) (putN name es n)) := by
  rw [<- e]
  exact Heap.get?_update_self _ D (by rw [e]; rfl)
 refine wpAny_updatePart D ?_
 have hlen : (putL name (PyData.keyHash w.params name) (.str name s.toks) v es).length <= es.length + 1 := putL_len _ _ _ _ _
 refine wpAny_bind (wpAny_lookBehind U (pastItsLine_dict (by rw [List.size_toArray, sizeLine_eq]; lia)) ?_)
 exact wpAny_pure (h _ _ _ _ _ (Heap.SameBut.update ..) U)
theorem set_own_A {A : Around} {E : Value -> Shared -> Prop} {s : Shared} {x C da : Addr} {es : List DictEntry} {n : Nat} {name : Str} {v : Value} {Q : Unit -> Shared -> Prop} (X : K.In s.heap) (O : ClsOk K C)
 (I : InstAt s.heap x (instObj C da) C (some (dictOf es n))) (D : s.heap.get? da = some (dictOf es n)) (ht : takerIn K C name = some none) (hl : (getL name es).isSome = true) (hz : es.length <= 900)
 (h : ∀ h' tk hs t n', Heap.SameBut da s.heap h' -> h'.get? da = some (dictOf (putL name hs (.str name t) v es) n') -> Q () { s with heap := h', toks := tk }) :
 wpAny (model prog w) A (setAttr (.ref x) name v) Q E s :=
 set_plain X I O.sa (osa_dict_A (s := { s with toks := s.toks + 1 }) X O I D ht hl hz fun h' tk hs t n' a b => h h' tk hs t n' a b)
end
section
variable {K : Frag} {prog : Program} {w : World} {A : Around} {E : Value -> Shared -> Prop} {s : Shared}
theorem seq_beq (x y : Str) : (x.cps.toList == y.cps.toList) = seq x y := by
 cases q : seq x y with
 | true => rw [seq_iff.mp q]; exact beq_self_eq_true _
 | false => exact beq_eq_false_iff_ne.mpr fun e => seq_false.mp q (seq_iff.mp (leq_iff.mpr e))
theorem ieq_beq (x y : Int) : (x == y) = ieq x y := by
 cases x with
 | ofNat m => cases y with
  | ofNat n =>
   show _ = Nat.beq m n
   cases q : Nat.beq m n with
   | true => rw [Nat.eq_of_beq_eq_true q]; exact beq_self_eq_true _
   | false => exact beq_eq_false_iff_ne.mpr fun e => Nat.ne_of_beq_eq_false q (Int.ofNat.inj e)
  | negSucc n => exact beq_eq_false_iff_ne.mpr (by intro e; cases e)
 | negSucc m => cases y with
  | ofNat n => exact beq_eq_false_iff_ne.mpr (by intro e; cases e)
  | negSucc n =>
   show _ = Nat.beq m n
   cases q : Nat.beq m n with
   | true => rw [Nat.eq_of_beq_eq_true q]; exact beq_self_eq_true _
   | false => exact beq_eq_false_iff_ne.mpr fun e => Nat.ne_of_beq_eq_false q (Int.negSucc.inj e)
theorem ilt_iff (x y : Int) : ilt x y = true ↔ x < y := Z.ltB_iff x y
theorem ilt_dec (x y : Int) : decide (x < y) = ilt x y := by
 cases q : ilt x y with
 | true => exact decide_eq_true ((ilt_iff x y).mp q)
 | false => exact decide_eq_false fun h => by rw [(ilt_iff x y).mpr h] at q; cases q
theorem ile_dec (x y : Int) : decide (x <= y) = !ilt y x := by
 rw [<- ilt_dec]
 by_cases h : x <= y
 · rw [decide_eq_true h, decide_eq_false (by lia)]; rfl
 · rw [decide_eq_false h, decide_eq_true (by lia)]; rfl
theorem inList_mem (c : Nat) : ∀ l : List Nat, decide (c ∈ l) = inList c l
 | [] => by simp [inList]
 | d :: r => by
  unfold inList
  cases q : Nat.beq c d with
  | true => rw [Nat.eq_of_beq_eq_true q]; simp
  | false =>
   have : c ≠ d := Nat.ne_of_beq_eq_false q
   simp only [List.mem_cons, this, false_or]
   exact inList_mem c r
theorem str_one {x : Str} {c : Nat} (h : x.cps.toList = [c]) : x = ⟨#[c]⟩ := by
 obtain ⟨⟨l⟩⟩ := x
 cases (show l = [c] from h); rfl
theorem isNone_ok {ρ : Rho} {a : AV} {u : Value} {b : Bool} (h : isNone a = some b) (v : VR ρ a u) : (u == .none) = b := by
 cases a with
 | none => cases h; cases (show u = .none from v); rfl
 | bool x => cases h; cases (show u = .bool x from v); rfl
 | int x => cases h; obtain ⟨t, rfl⟩ := v; rfl
 | str x => cases h; obtain ⟨t, rfl⟩ := v; rfl
 | ref x => cases h; obtain ⟨t, _, rfl⟩ := v; rfl
 | raw x => have e : u = x := v; subst e; cases u <;> first | (cases h; rfl) | cases h
 | dat x => exact none_el h
 | unk => exact none_el h
theorem bytes_inj {a b : String} (h : a.toByteArray.data.toList.map UInt8.toNat = b.toByteArray.data.toList.map UInt8.toNat) : a = b := by
 have : a.toByteArray.data.toList = b.toByteArray.data.toList := List.map_inj_right (fun x y e => UInt8.toNat_inj.mp e) |>.mp h
 have : a.toByteArray = b.toByteArray := by
  cases ha : a.toByteArray; cases hb : b.toByteArray
  rw [ha, hb] at this
  exact congrArg ByteArray.mk (Array.toList_inj.mp this)
 exact String.toByteArray_inj.mp this
theorem sameType_ok {u v : Value} {b : Bool} (h : sameType (.raw u) (.raw v) = some b) : plainIs u v = true /\ (u == v) = b :=
 bnd_el h fun x e1 h => bnd_el h fun y e2 h3 => by
  obtain rfl := (Option.some.inj (congrArg rwV (typV_inv e1)) : u = .type x)
  obtain rfl := (Option.some.inj (congrArg rwV (typV_inv e2)) : v = .type y)
  obtain rfl := Option.some.inj h3
  refine ⟨rfl, ?_⟩
  cases q : leq _ _ with
  | true => rw [bytes_inj (leq_iff.mp q)]; exact beq_self_eq_true _
  | false => exact beq_eq_false_iff_ne.mpr fun e => ff_el (q.symm.trans (leq_iff.mpr (by rw [Value.type.inj e])))
theorem strsOf_ok {F : Fz} {l : List PyData} {vs : List Value} {ys : List Str} (h : strsOf l = some ys) (W : FRs F l vs) : StrsAre vs ys :=
 FRs.ind (P := fun l vs => ∀ ys, strsOf l = some ys -> StrsAre vs ys) (fun ys h => Option.some.inj (show some [] = some ys from h) ▸ .nil) (fun {d v l vs} a _ ih ys h => by
  refine bnd_el (show bnd (strP d) _ = some ys from h) fun y hy h => bnd_el h fun z hz e => ?_
  have e1 := strP_inv hy
  subst e1
  obtain ⟨t, rfl⟩ := a.out
  exact Option.some.inj e ▸ .cons _ _ (ih z hz)) W ys h
theorem FR.reads {F : Fz} {h : Heap} (k : FSub F h.get?) {d : PyData} {v : Value} (f : FR F d v) : ∃ as, Reads h v d as :=
 FR.rec (motive_1 := fun d v ι => ∃ as, Reads h v d as) (motive_2 := fun l vs ι => ∃ as, ReadsAll h vs l as) ⟨_, .none⟩ (fun b => ⟨_, .bool b⟩) (fun i t => ⟨_, .int i t⟩) (fun x t => ⟨_, .str x t⟩)
  (fun e ι r => let ⟨_, z⟩ := r; ⟨_, .list (k _ _ e) rfl rfl z⟩) (fun e ι r => let ⟨_, z⟩ := r; ⟨_, .tuple (k _ _ e) rfl rfl z⟩) ⟨_, .nil⟩ (fun ι ι a r => let ⟨_, y⟩ := a; let ⟨_, z⟩ := r; ⟨_, .cons y z⟩) f
theorem FRs.reads {F : Fz} {h : Heap} (k : FSub F h.get?) {l : List PyData} {vs : List Value} (f : FRs F l vs) : ∃ as, ReadsAll h vs l as :=
 FRs.ind (P := fun l vs => ∃ as, ReadsAll h vs l as) ⟨_, .nil⟩ (fun a ι r => let ⟨_, y⟩ := a.reads k; let ⟨_, z⟩ := r; ⟨_, .cons y z⟩) f
set_option tactic.hygienic true in
theorem lsAt_ok {σ : St} {ρ : Rho} {h : Heap} {i : Nat} {a : Addr} {l : List PyData} (R : Rl K σ ρ h) (e : lsAt σ i = some l) (ha : nth ρ.l i = some a) : ∃ vs n, h.get? a = some (listOf ⟨vs⟩ n) /\ FRs ρ.F l vs := by
 unfold lsAt at e
 split at e
 · rename_i q
   cases e
   obtain ⟨vs, n, g, V⟩ := (R.ob i a _ ha q).out
   exact ⟨vs, n, g, V⟩
 · rename_i q
   cases e
   obtain ⟨vs, n, g, V⟩ := (R.ob i a _ ha q).out
   exact ⟨vs, n, R.fin _ _ g, V⟩
 · cases e
theorem listOfV_ok {σ : St} {ρ : Rho} {h : Heap} {v : AV} {u : Value} {l : List PyData} (R : Rl K σ ρ h) (e : listOfV v σ = some l) (V : VR ρ v u) : ∃ a vs n, u = .ref a /\ h.get? a = some (listOf ⟨vs⟩ n) /\ FRs ρ.F l vs := by
 unfold listOfV at e
 split at e
 · obtain ⟨a, ha, rfl⟩ := V
   obtain ⟨vs, n, g, W⟩ := lsAt_ok R e ha
   exact ⟨a, vs, n, rfl, g, W⟩
 · cases e
   cases V with
   | list e r => exact ⟨_, _, _, rfl, R.fin _ _ e, r⟩
 · cases e
theorem readL_ok {σ : St} {ρ : Rho} {h : Heap} {v : AV} {u : Value} {d : PyData} (R : Rl K σ ρ h) (e : readL v σ = some d) (V : VR ρ v u) : ∃ as, Reads h u d as := by
 unfold readL at e
 split at e
 · obtain ⟨l, h1, e⟩ := bnd_some e
   cases e
   obtain ⟨a, ha, rfl⟩ := V
   obtain ⟨vs, n, g, W⟩ := lsAt_ok R h1 ha
   obtain ⟨as, z⟩ := W.reads R.fin
   exact ⟨_, .list g rfl rfl z⟩
 · exact (toP_ok e V).reads R.fin
theorem readLs_ok {σ : St} {ρ : Rho} {h : Heap} (R : Rl K σ ρ h) {l : List AV} {vs : List Value} {ds : List PyData} (e : readLs l σ = some ds) (V : VRs ρ l vs) : ∃ as, ReadsAll h vs ds as := by
 induction l generalizing vs ds with
 | nil => have q : vs = [] := V.out; subst q; exact Option.some.inj (show some [] = some ds from e) ▸ ⟨_, .nil⟩
 | cons a l ih =>
  obtain ⟨v, r, rfl, x, b⟩ := V.out
  refine bnd_el (show bnd (readL a σ) (fun d => bnd (readLs l σ) fun ds => some (d :: ds)) = some ds from e) fun d h1 e => bnd_el e fun ds' h2 e => ?_
  obtain ⟨_, y⟩ := readL_ok R h1 x
  obtain ⟨_, z⟩ := ih h2 b
  exact Option.some.inj e ▸ ⟨_, .cons y z⟩
set_option tactic.hygienic true in
theorem readV_ok {σ : St} {ρ : Rho} {h : Heap} {v : AV} {u : Value} {d : PyData} (R : Rl K σ ρ h) (e : readV v σ = some d) (V : VR ρ v u) : ∃ as, Reads h u d as := by
 unfold readV at e
 split at e
 · rename_i i
   split at e
   · rename_i l hl
     obtain ⟨ds, h1, e⟩ := bnd_some e
     cases e
     obtain ⟨a, ha, rfl⟩ := V
     obtain ⟨_, _, g, W⟩ := (R.ob i a _ ha hl).out
     obtain ⟨as, z⟩ := readLs_ok R h1 W
     exact ⟨_, .tuple g rfl rfl z⟩
   · exact readL_ok R e V
 · exact (toP_ok e V).reads R.fin
theorem pdEq_eqv : ∀ d e : PyData, pdEq d e = PyData.eqv d e := by
 have b2 : ∀ a b : Bool, (match a, b with | true, true => true | false, false => true | _, _ => false) = (a == b) := by intro a b; cases a <;> cases b <;> rfl
 have str : ∀ a b : Str, seq a b = (a == b) := fun a b => by
  cases q : seq a b with
  | true => rw [seq_iff.mp q, beq_self_eq_true]
  | false => exact (beq_eq_false_iff_ne.mpr (seq_false.mp q)).symm
 intro d
 refine PyData.rec (motive_1 := fun d => ∀ e, pdEq d e = PyData.eqv d e) (motive_2 := fun l => ∀ r, pdEqs l r = PyData.eqvAll l r) (motive_3 := fun ι => True) (motive_4 := fun ι => True) ?_ ?_ ?_ ?_ ?_ ?_ ?_ ?_ ?_ ?_ ?_ ?_ d
 · intro e; cases e <;> rfl
 · intro a e; cases e with
   | bool b => cases a <;> cases b <;> rfl
   | int b => cases a with
    | false => exact (ieq_beq 0 b).symm
    | true => exact (ieq_beq 1 b).symm
   | _ => rfl
 · intro a e; cases e with
   | bool b => cases b with
    | false => exact (ieq_beq a 0).symm
    | true => exact (ieq_beq a 1).symm
   | int b => exact (ieq_beq a b).symm
   | _ => rfl
 · intro a e; cases e with
   | str b => exact str a b
   | _ => rfl
 · intro l ih e; cases e with
   | list r => exact ih r
   | _ => rfl
 · intro l ih e; cases e with
   | tuple r => exact ih r
   | _ => rfl
 · intro l ih e; cases e <;> rfl
 · intro r; cases r <;> rfl
 · intro a l ia il r
   cases r with
   | nil => rfl
   | cons b r =>
    show (match pdEq a b with | true => pdEqs l r | false => false) = (PyData.eqv a b && PyData.eqvAll l r)
    rw [ia, il]
    cases PyData.eqv a b <;> rfl
 · trivial
 · intros; trivial
 · intros; trivial
theorem memP_any (d : PyData) : ∀ l : List PyData, l.any (fun y => PyData.eqv y d) = memP d l
 | [] => rfl
 | a :: l => by
  rw [List.any_cons, memP_any d l, <- pdEq_eqv]
  show (pdEq a d || memP d l) = (match pdEq a d with | true => true | false => memP d l)
  cases pdEq a d <;> rfl
theorem memS_any (x : Str) : ∀ ys : List Str, ys.any (· == x) = memS x ys
 | [] => rfl
 | y :: r => by
  rw [List.any_cons, memS_any x r]
  show (y == x || memS x r) = (match seq y x with | true => true | false => memS x r)
  cases q : seq y x with
  | true => rw [seq_iff.mp q, beq_self_eq_true]; rfl
  | false => rw [beq_eq_false_iff_ne.mpr (seq_false.mp q)]; rfl
theorem eqVA_ok {σ σ' : St} {ρ : Rho} {a b : AV} {u v : Value} {t : Bool} {Q : Value -> Shared -> Prop} (hr : Room 10 A) (R : Rl K σ ρ s.heap) (h : eqVA a b σ = some (t, σ', true)) (ha : VR ρ a u) (hb : VR ρ b v) :
 σ' = σ /\ (Q (.bool t) s -> wpAny (model prog w) A (compareOp .Eq u v) Q E s) /\ (Q (.bool (!t)) s -> wpAny (model prog w) A (compareOp .NotEq u v) Q E s) := by
 unfold eqVA at h
 refine bnd_el h fun d h1 h => ?_
 refine bnd_el h fun e h2 h => ?_
 refine chk_el h fun s1 h => ?_
 refine chk_el h fun s2 h => ?_
 obtain ⟨rfl, rfl⟩ := ok_some h
 obtain ⟨as, r1⟩ := readV_ok R h1 ha
 obtain ⟨bs, r2⟩ := readV_ok R h2 hb
 have hu : A.units + 64 < cLine := by have := hr.2.1; exact rm_1 ‹_› rfl
 refine ⟨rfl, fun q => eq_dataH r1 r2 s1 s2 hu (by rw [<- pdEq_eqv]; exact q), fun q => ne_dataH r1 r2 s1 s2 hu (by rw [<- pdEq_eqv]; exact q)⟩
theorem eqA_ok {σ σ' : St} {ρ : Rho} {a b : AV} {u v : Value} {t : Bool} {Q : Value -> Shared -> Prop} (hr : Room 10 A) (R : Rl K σ ρ s.heap) (h : eqA a b σ = some (t, σ', true)) (ha : VR ρ a u) (hb : VR ρ b v) (q : σ' = σ -> Q (.bool t) s) : wpAny (model prog w) A (compareOp .Eq u v) Q E s := by
 cases a with
 | str x => refine ha.st fun t1 => ?_; cases b with
  | str y => exact hb.st fun t2 => P.eq_str (by rw [seq_beq]; exact ok_t h q)
  | none => exact hb.nn (EqNone.eq_str_none (ok_t h q))
  | _ => exact none_el h
 | none => refine ha.nn ?_; cases b with
  | str y => exact hb.st fun t2 => EqNone.eq_none_str (ok_t h q)
  | none => exact hb.nn (EqNone.eq_none_none (ok_t h q))
  | _ => exact none_el h
 | int x => exact ha.it fun t1 => int_vr h hb fun y t2 h => P.eq_int (by rw [ieq_beq]; exact ok_t h q)
 | ref i => obtain ⟨e1, e2, _⟩ := eqVA_ok (Q := Q) hr R h ha hb; exact e2 (q e1)
 | _ => exact none_el h
theorem neA_ok {σ σ' : St} {ρ : Rho} {a b : AV} {u v : Value} {t : Bool} {Q : Value -> Shared -> Prop} (hr : Room 10 A) (R : Rl K σ ρ s.heap) (h : neA a b σ = some (t, σ', true)) (ha : VR ρ a u) (hb : VR ρ b v) (q : σ' = σ -> Q (.bool t) s) : wpAny (model prog w) A (compareOp .NotEq u v) Q E s := by
 cases a with
 | str x => exact ha.st fun t1 => str_vr h hb fun y t2 h => P.ne_str (by rw [bne, seq_beq]; exact ok_t h q)
 | int x => exact ha.it fun t1 => int_vr h hb fun y t2 h => P.ne_int (by rw [bne, ieq_beq]; exact ok_t h q)
 | ref i =>
  exact bn2_el (x := eqVA (.ref i) b σ) h fun t' σ₁ h1 h => by
   obtain ⟨e1, _, e3⟩ := eqVA_ok (Q := Q) hr R h1 ha hb
   exact e3 (ok_t h fun e => q (e.trans e1))
 | _ => exact none_el h
theorem isA_ok {σ σ' : St} {ρ : Rho} {a b : AV} {u v : Value} {t : Bool} {Q : Value -> Shared -> Prop} (hr : Room 10 A) (R : Rl K σ ρ s.heap) (h : isA a b σ = some (t, σ', true)) (ha : VR ρ a u) (hb : VR ρ b v) (q : σ' = σ -> Q (.bool t) s) : wpAny (model prog w) A (compareOp .Is u v) Q E s := by
 cases b with
 | none => exact bnd_el h fun c hc h => hb.nn (is_none_gen (by rw [isNone_ok hc ha]; exact ok_t h q))
 | raw y =>
  exact bnd_el h fun c hc h2 => bnd_el hc fun x e1 ι => hb.rw (by
   have e := typV_inv e1
   subst e
   exact ha.rw (wpAny_is_plain (sameType_ok hc).1 (by rw [(sameType_ok hc).2]; exact ok_t h2 q)))
 | _ => exact none_el h
theorem isNA_ok {σ σ' : St} {ρ : Rho} {a b : AV} {u v : Value} {t : Bool} {Q : Value -> Shared -> Prop} (hr : Room 10 A) (R : Rl K σ ρ s.heap) (h : isNA a b σ = some (t, σ', true)) (ha : VR ρ a u) (hb : VR ρ b v) (q : σ' = σ -> Q (.bool t) s) : wpAny (model prog w) A (compareOp .IsNot u v) Q E s := by
 cases b with
 | none => exact bnd_el h fun c hc h => hb.nn (isnot_none_gen (by rw [isNone_ok hc ha]; exact ok_t (P := fun z => Q (.bool z) s) h q))
 | raw y =>
  exact bnd_el h fun c hc h2 => bnd_el hc fun x e1 ι => hb.rw (by
   have e := typV_inv e1
   subst e
   exact ha.rw (wpAny_isNot_plain (sameType_ok hc).1 (by rw [(sameType_ok hc).2]; exact ok_t (P := fun z => Q (.bool z) s) h2 q)))
 | _ => exact none_el h
theorem inA_ok {σ σ' : St} {ρ : Rho} {a b : AV} {u v : Value} {t : Bool} {Q : Value -> Shared -> Prop} (hr : Room 10 A) (R : Rl K σ ρ s.heap) (h : inA a b σ = some (t, σ', true)) (ha : VR ρ a u) (hb : VR ρ b v) (q : σ' = σ -> Q (.bool t) s) : wpAny (model prog w) A (compareOp .In u v) Q E s := by
 cases a with
 | str x => refine ha.st fun t1 => ?_; cases b with
  | str y =>
   exact hb.st fun t2 => bnd_el h fun c hc h => by
    rw [str_one (oneV_inv hc)]
    exact P.in_str (by rw [StrLaws.found_one, inList_mem]; exact ok_t h q)
  | dat d =>
   exact bnd_el h fun l hl h => bnd_el h fun ys hy h3 => by
    have e := tupP_inv hl
    subst e
    obtain ⟨a, vs, n, rfl, e, r⟩ := (show FR ρ.F (.tuple l) v from hb).out
    exact in_tuple_strs (items := ⟨vs⟩) ⟨_, R.fin _ _ e, rfl, n, rfl⟩ (strsOf_ok hy r) (by rw [memS_any]; exact ok_t h3 q)
  | _ => exact none_el h
 | dat d =>
  exact bnd_el h fun l0 ι h => ref_vr h hb fun i ad hn h => bnd_el h fun l h1 h => chk_el h fun s1 h => chk_el h fun s2 h => by
   obtain ⟨as, r1⟩ := FR.reads R.fin (show FR ρ.F d u from ha)
   obtain ⟨vs, n, g, W⟩ := lsAt_ok R h1 hn
   obtain ⟨bs, z⟩ := W.reads R.fin
   exact SeqAt.in_list_reads (.list g rfl rfl z) r1 (SeqAt.canLay_of_shaped s2) (SeqAt.canLay_of_shaped s1) (room_in_shaped s1 (by have := hr.2.1; exact rm_1 ‹_› rfl)) (by rw [memP_any]; exact ok_t h q)
 | _ => exact none_el h
theorem cmpA_ok {σ σ' : St} {ρ : Rho} {op : CmpOp} {a b : AV} {u v : Value} {t : Bool} {Q : Value -> Shared -> Prop} (hr : Room 10 A) (R : Rl K σ ρ s.heap) (h : cmpA op a b σ = some (t, σ', true)) (ha : VR ρ a u) (hb : VR ρ b v) (q : σ' = σ -> Q (.bool t) s) : wpAny (model prog w) A (compareOp op u v) Q E s := by
 cases op with
 | Eq => exact eqA_ok hr R h ha hb q
 | NotEq => exact neA_ok hr R h ha hb q
 | Lt => exact int2_vr h ha hb fun x t1 y t2 h => P.lt_int (by rw [ilt_dec]; exact ok_t h q)
 | Gt => exact int2_vr h ha hb fun x t1 y t2 h => P.gt_int (by rw [show decide (_ > _) = _ from ilt_dec _ _]; exact ok_t h q)
 | LtE => exact int2_vr h ha hb fun x t1 y t2 h => P.le_int (by rw [ile_dec]; exact ok_t h q)
 | GtE => exact int2_vr h ha hb fun x t1 y t2 h => P.ge_int (by rw [show decide (_ ≥ _) = _ from ile_dec _ _]; exact ok_t h q)
 | Is => exact isA_ok hr R h ha hb q
 | IsNot => exact isNA_ok hr R h ha hb q
 | In => exact inA_ok hr R h ha hb q
 | NotIn =>
  exact str_vr h ha fun x t1 h => str_vr h hb fun y t2 h => bnd_el h fun c hc h => by
   rw [str_one (oneV_inv hc)]
   exact P.notIn_str (by rw [StrLaws.found_one, inList_mem]; exact ok_t h q)
theorem small_ok {x : Str} (h : small x = true) : x.length <= 100000 := by
 have := Nat.le_of_ble_eq_true h
 rw [len_eq] at this
 simpa [Str.length] using this
theorem cat_eq (x y : Str) : cat x y = x ++ y := by
 obtain ⟨⟨a⟩⟩ := x
 obtain ⟨⟨b⟩⟩ := y
 show (⟨⟨a ++ b⟩⟩ : Str) = ⟨⟨a⟩ ++ ⟨b⟩⟩
 congr 1
 exact (List.append_toArray a b).symm
theorem add_made {x y : Str} {t u : Tok} {Q : Value -> Shared -> Prop} (h : small (cat x y) = true) (q : ∀ t tk, Q (.str (cat x y) t) { s with toks := tk }) :
 (if x.length == 0 then Made.val (.str y u) else if y.length == 0 then Made.val (.str x t) else Made.str (x ++ y)).post Q s := by
 by_cases h0 : (x.length == 0) = true
 · rw [if_pos h0]
   have e : cat x y = y := by
    obtain ⟨⟨a⟩⟩ := x
    cases a with
    | nil => rfl
    | cons => cases h0
   have := q u s.toks
   rw [e] at this; exact this
 · rw [if_neg h0]
   by_cases h1 : (y.length == 0) = true
   · rw [if_pos h1]
     have e : cat x y = x := by
      obtain ⟨⟨b⟩⟩ := y
      cases b with
      | nil => unfold cat; obtain ⟨⟨a⟩⟩ := x; simp
      | cons => cases h1
     have := q t s.toks
     rw [e] at this; exact this
   · rw [if_neg h1, <- cat_eq]
     refine ⟨?_, q _ _⟩
     have := small_ok h
     rw [sizeLine_eq]; exact le_c ‹_› rfl
theorem fit_ok {α : Type} {l : List α} (h : fit l = true) : l.length <= 10000 := by
 have := Nat.le_of_ble_eq_true h
 rw [len_eq] at this; exact this
theorem push_keep (h : Heap) (o : Obj) : ∀ b q, h.get? b = some q -> (h.push o).get? b = some q := fun ι ι e => Heap.get?_push_of_some _ e
theorem get_size (h : Heap) : h.get? h.objs.size = none := by
 cases e : h.get? h.objs.size with
 | none => rfl
 | some o => exact absurd (Heap.lt_size e) (Nat.lt_irrefl _)
theorem push_size (h : Heap) (o : Obj) : (h.push o).objs.size = h.objs.size + 1 := Heap.size_push ..
theorem Rl.new {σ : St} {ρ : Rho} {h : Heap} {o : AO} (L : Lo K) (R : Rl K σ ρ h) (ob : Obj) (q : OR ⟨ρ.l ++ [h.objs.size], ρ.F, ρ.X, ρ.fs⟩ (h.push ob) h.objs.size o) :
 Rl K (σ ++ [o]) ⟨ρ.l ++ [h.objs.size], ρ.F, ρ.X, ρ.fs⟩ (h.push ob) /\ Ex ρ h ⟨ρ.l ++ [h.objs.size], ρ.F, ρ.X, ρ.fs⟩ (h.push ob) /\ nth (ρ.l ++ [h.objs.size]) (Mine.len σ) = some h.objs.size :=
 ⟨R.push L (push_keep _ _) (get_size h) q, .push (push_keep _ _) (get_size h), by rw [len_eq, <- R.len]; exact nth_last _ _⟩
theorem made_q {σ σ' : St} {ρ : Rho} {a r : AV} {Q : Value -> Shared -> Prop} (R : Rl K σ ρ s.heap) (h : ok a σ = some (r, σ', true)) (q : ∀ ρ' h' x tk, Rl K σ' ρ' h' -> Ex ρ s.heap ρ' h' -> VR ρ' r x -> Q x { s with heap := h', toks := tk }) (x : Value) (tk : Nat) (V : VR ρ a x) : Q x { s with toks := tk } := by
 obtain ⟨rfl, rfl⟩ := ok_some h
 exact q ρ s.heap x tk R (.refl ..) V
theorem addL_ok {σ σ' : St} {ρ : Rho} {a b r : AV} {u v : Value} {Q : Value -> Shared -> Prop} (L : Lo K) (R : Rl K σ ρ s.heap) (h : addL a b σ = some (r, σ', true)) (ha : VR ρ a u) (hb : VR ρ b v)
 (q : ∀ ρ' h' x tk, Rl K σ' ρ' h' -> Ex ρ s.heap ρ' h' -> VR ρ' r x -> Q x { s with heap := h', toks := tk }) : wpAny (model prog w) A (binaryOp .Add u v) Q E s :=
 bnd_el h fun x h1 h => bnd_el h fun y h2 h => chk_el h fun p1 h => chk_el h fun p2 h => by
  obtain ⟨rfl, rfl⟩ := ok_some h
  obtain ⟨a1, vs, n, rfl, g1, W1⟩ := listOfV_ok R h1 ha
  obtain ⟨a2, us, m, rfl, g2, W2⟩ := listOfV_ok R h2 hb
  have l1 := fit_ok p1
  have l2 := fit_ok p2
  refine P.add_list g1 g2 ?_ (by show vs.length + us.length <= _; rw [W1.length, W2.length, sizeLine_eq]; exact le_2 ‹_› ‹_› rfl)
  have e : (⟨vs⟩ : Array Value) ++ ⟨us⟩ = ⟨vs ++ us⟩ := by simp
  rw [e]
  obtain ⟨R', X', e'⟩ := R.new L _ (.list (l := x ++ y) (Heap.get?_push_size _ rfl) (W1.append W2))
  exact q _ _ _ _ R' X' ⟨_, e', rfl⟩
theorem addA_ok {σ σ' : St} {ρ : Rho} {a b r : AV} {u v : Value} {Q : Value -> Shared -> Prop} (L : Lo K) (R : Rl K σ ρ s.heap) (h : addA a b σ = some (r, σ', true)) (ha : VR ρ a u) (hb : VR ρ b v)
 (q : ∀ ρ' h' x tk, Rl K σ' ρ' h' -> Ex ρ s.heap ρ' h' -> VR ρ' r x -> Q x { s with heap := h', toks := tk }) : wpAny (model prog w) A (binaryOp .Add u v) Q E s := by
 cases a with
 | int x => exact ha.it fun t1 => int_vr h hb fun y t2 h => P.add_int (made_q R h q _ _ ⟨_, rfl⟩)
 | str x => exact ha.st fun t1 => str_vr h hb fun y t2 h => chk_el h fun p h => P.add_str (add_made p fun t tk => made_q R h q _ tk ⟨t, rfl⟩)
 | _ => exact addL_ok L R h ha hb q
theorem binA_ok {σ σ' : St} {ρ : Rho} {op : Operator} {a b r : AV} {u v : Value} {Q : Value -> Shared -> Prop} (L : Lo K) (R : Rl K σ ρ s.heap) (h : binA op a b σ = some (r, σ', true)) (ha : VR ρ a u) (hb : VR ρ b v)
 (q : ∀ ρ' h' x tk, Rl K σ' ρ' h' -> Ex ρ s.heap ρ' h' -> VR ρ' r x -> Q x { s with heap := h', toks := tk }) : wpAny (model prog w) A (binaryOp op u v) Q E s := by
 cases op with
 | Add => exact addA_ok L R h ha hb q
 | Sub => exact int2_vr h ha hb fun x t1 y t2 h => P.sub_int (made_q R h q _ _ ⟨_, rfl⟩)
 | Mod => exact int2_vr h ha hb fun x t1 y t2 h => gd_el h fun p h => mod_int' (Int.ne_of_gt ((ilt_iff 0 y).mp p)) (made_q R h q _ _ ⟨_, rfl⟩)
 | FloorDiv => exact int2_vr h ha hb fun x t1 y t2 h => gd_el h fun p h => and_el p fun p p1 => floordiv_int (Int.ne_of_gt ((ilt_iff 0 y).mp p)) (made_q R h q _ _ ⟨_, rfl⟩) (.inl (PyProof.noPylong_small (by have := (ilt_iff 0 y).mp p; have := (ilt_iff _ _).mp p1; lia)))
 | _ => exact none_el h
theorem slot_deque_len : Slot "collections.deque" "__len__" "collections.deque.__len__" :=
 .of (owner := "collections.deque") (n := "__len__") (by rw [typeLookup_type, builtinLookup_eq_fast]; kernel_rfl) (by decide +kernel) (by decide +kernel) (by decide +kernel)
  (by first | exact .inl (by decide +kernel) | exact .inr (by decide +kernel)) (by rw [isSubtype_type]; kernel_rfl)
theorem noBool_deque : typeLookup (.type "collections.deque") "__bool__" = pure none := by rw [typeLookup_type, builtinLookup_eq_fast]; kernel_rfl
theorem entry_deque_len : entryFor table "collections.deque.__len__" = some Builtin.«collections.deque.__len__» := entryFor_of_tree (by kernel_rfl)
theorem args_deque_len (a : Value) : argsOk "collections.deque.__len__" ⟨[a], []⟩ := by unfold argsOk; kernel_rfl
theorem len_body_deque {l : Addr} {o : Obj} {vs : Array Value} {Q : Value -> Shared -> Prop} (ho : s.heap.get? l = some o) (hc : o.cls = .type "collections.deque") (hd : o.data = .fields vs) (hv : vs.size = 2)
 (h : ∀ t tk, Q (.int 0 t) { s with toks := tk }) : wpAny (model prog w) A (Builtin.«len» ⟨[.ref l], []⟩) (fun fin s' => ∃ r, fin = .done (.ret r) /\ Q r s') E s := by
 have hT : s.TypeIs (.ref l) "collections.deque" := ⟨o, ho, hc⟩
 unfold Builtin.«len»
 refine wpAny_bind (m := oneArg "len" _) (wpAny_pure ?_)
 refine wpAny_bind (m := callSpecial? (.ref l) (Zs "__len__")) (wpAny_callSpecial?_slot (name := Zs "__len__") hT slot_deque_len
  (wpAny_call_entry slot_deque_len hT entry_deque_len ?_ (args_deque_len _)))
 show wpAny _ _ (do retInt (<- Builtin.Deque.size (.ref l))) _ _ s
 unfold Builtin.Deque.size
 refine wpAny_bind (wpAny_bind (wpAny_fieldsOf ho hd (wpAny_pure ?_)))
 rw [hv]
 refine wpAny_bind (wpAny_mkInt (wpAny_pure ⟨_, rfl, ?_⟩))
 refine wpAny_bind (wpAny_holding (wpAny_pure ?_))
 refine wpAny_bind (wpAny_letGo ?_)
 show wpAny _ _ (if ((0 : Nat) : Int) < 0 then _ else _) _ _ _
 rw [if_neg (by decide)]
 show wpAny _ _ (if ((0 : Nat) : Int) ≥ 2 ^ 63 then _ else _) _ _ _
 rw [if_neg (by decide)]
 exact wpAny_bind (wpAny_mkInt (wpAny_pure ⟨_, rfl, h _ _⟩))
theorem truthy_deque {l : Addr} {o : Obj} {vs : Array Value} {Q : Bool -> Shared -> Prop} (ho : s.heap.get? l = some o) (hc : o.cls = .type "collections.deque") (hd : o.data = .fields vs) (hv : vs.size = 2)
 (h : ∀ tk, Q false { s with toks := tk }) : wpAny (model prog w) A (truthy (.ref l)) Q E s := by
 have hT : s.TypeIs (.ref l) "collections.deque" := ⟨o, ho, hc⟩
 have key : wpAny (model prog w) A (runValue (.builtin "len" ⟨[.ref l], []⟩)) (fun r s' => (∃ t, r = .int 0 t) /\ Q false s') E s := by
  refine wpAny_runValue (codeAny_builtin entry_len ?_)
  rw [Around.under_plainId plain_len _]
  exact wpAny_mono (len_body_deque (Q := fun r s' => (∃ t, r = .int 0 t) /\ Q false s') ho hc hd hv fun t tk => ⟨⟨t, rfl⟩, h tk⟩)
   (fun fin s' h' => by obtain ⟨r, rfl, hq⟩ := h'; exact hq) fun ι ι e => e
 unfold truthy
 refine wpAny_bind (wpAny_callSpecial?_none (name := Zs "__bool__") hT noBool_deque ?_)
 refine wpAny_bind (wpAny_specialOf (name := Zs "__len__") hT slot_deque_len.lookup ?_)
 exact wpAny_bind (wpAny_mono key (fun r s' h' => by obtain ⟨⟨t, rfl⟩, hq⟩ := h'; exact wpAny_pure hq) fun ι ι e => e)
theorem truth_ok {σ σ' : St} {ρ : Rho} {a : AV} {u : Value} {b : Bool} {Q : Bool -> Shared -> Prop} (R : Rl K σ ρ s.heap) (h : truthA a σ = some (b, σ', true)) (ha : VR ρ a u) (q : σ' = σ -> ∀ tk, Q b { s with toks := tk }) :
 wpAny (model prog w) A (truthy u) Q E s := by
 cases a with
 | none => exact ha.nn (truthy_none (ok_t h (fun e => q e s.toks)))
 | bool c => exact (show u = .bool c from ha) ▸ wpAny_truthy_bool (ok_t h (fun e => q e s.toks))
 | int i => exact ha.it fun t => P.truthy_int (by rw [bne, ieq_beq]; exact ok_t h (fun e => q e s.toks))
 | str x =>
  exact ha.st fun t => chk_el h fun hs h => by
   refine P.truthy_str (by have := small_ok hs; lia) ?_
   have e : ((x.length : Int) != 0) = !isNil x.cps.toList := by
    obtain ⟨⟨l⟩⟩ := x
    cases l with
    | nil => rfl
    | cons c r => rfl
   rw [e]; exact ok_t h (fun e => q e _)
 | ref i =>
  exact ha.rf fun ad hn => by
   have O := R.ob i ad
   cases hi : nth σ i with
   | none => rw [truthA, hi] at h; exact none_el h
   | some o =>
    rw [truthA, hi] at h
    have O := (O o hn hi).out
    cases o with
    | list l =>
     refine chk_el h fun hs h => ?_
     have hs := fit_ok hs
     obtain ⟨vs, n, g, V⟩ := O
     refine wpAny_truthy_list (items := ⟨vs⟩) ⟨_, g, rfl, n, rfl⟩ (by show ((vs.length : Nat) : Int) < _; rw [V.length]; exact nb_lt ‹_› rfl) ?_
     rw [show (!(⟨vs⟩ : Array Value).isEmpty) = !isNil l from V.ind (P := fun l vs => (!(⟨vs⟩ : Array Value).isEmpty) = !isNil l) rfl fun ι ι ι => rfl]
     exact ok_t h (fun e => q e _)
    | deq =>
     obtain ⟨_, _, a, b, c, d⟩ := O
     exact truthy_deque a b c d fun tk => ok_t h (fun e => q e tk)
    | _ => exact none_el h
 | _ => exact none_el h
end
section
inductive FlR (ρ : Rho) : Fl -> Flow -> Prop
 | next : FlR ρ .next .next
 | brk : FlR ρ .brk .brk
 | cont : FlR ρ .cont .cont
 | ret {v u} : VR ρ v u -> FlR ρ (.ret v) (.ret u)
inductive KRs (ρ : Rho) : List (Str × AV) -> List (Str × Value) -> Prop
 | nil : KRs ρ [] []
 | cons {x a v l vs} : VR ρ a v -> KRs ρ l vs -> KRs ρ ((x, a) :: l) ((x, v) :: vs)
theorem KRs.ex {ρ ρ' : Rho} {h h' : Heap} {l : List (Str × AV)} {vs : List (Str × Value)} (x : Ex ρ h ρ' h') (y : KRs ρ l vs) : KRs ρ' l vs := by
 induction y with
 | nil => exact .nil
 | cons a _ ih => exact .cons (a.ex x) ih
theorem KRs.zip {ρ : Rho} : ∀ {ns : List Str} {l : List AV} {vs : List Value}, VRs ρ l vs -> KRs ρ (zipS ns l) (ns.zip vs)
 | [], _, _, _ => .nil
 | _ :: _, _, _, .nil => .nil
 | _ :: _, _, _, .cons a r => .cons a (KRs.zip r)
theorem VRs.length {ρ : Rho} {l : List AV} {vs : List Value} (h : VRs ρ l vs) : vs.length = l.length := by
 induction h with
 | nil => rfl
 | cons _ _ ih => exact congrArg Nat.succ ih
@[elab_as_elim] theorem isNil_ks {ρ : Rho} {ks : List (Str × AV)} {uks : List (Str × Value)} {C : List (Str × Value) -> Prop} (h : isNil ks = true) (W : KRs ρ ks uks) (k : C []) : C uks := by
 induction W with
 | nil => exact k
 | cons => exact ff_el h
@[elab_as_elim] theorem arg1_el {β : Type} {ρ : Rho} {vs : List AV} {us : List Value} {ks : List (Str × AV)} {uks : List (Str × Value)} {f : AV -> Rs β} {b : β × St × Bool} {C : List Value -> List (Str × Value) -> Prop} (h : arg1 vs ks f = some b) (V : VRs ρ vs us) (W : KRs ρ ks uks) (k : ∀ w u, VR ρ w u -> f w = some b -> C [u] []) : C us uks :=
 gd_el h fun h1 h => isNil_ks (C := C us) h1 W (one_vr h V k)
@[elab_as_elim] theorem arg0_el {β : Type} {ρ : Rho} {vs : List AV} {us : List Value} {ks : List (Str × AV)} {uks : List (Str × Value)} {x : Rs β} {b : β × St × Bool} {C : List Value -> List (Str × Value) -> Prop} (h : arg0 vs ks x = some b) (V : VRs ρ vs us) (W : KRs ρ ks uks) (k : x = some b -> C [] []) : C us uks :=
 gd_el h fun h1 h => gd_el h fun h2 h => isNil_ks (C := C us) h1 W (VRs.nil_el h2 V (k h))
noncomputable def srcV (vs : List Value) (ks : List (Str × Value)) : Src -> Value
 | .pos i => (nth vs i).getD .none
 | .kw x => (look x ks).getD .none
 | .dflt v => v
noncomputable def bindsV (vs : List Value) (ks : List (Str × Value)) (l : List (Str × Src)) : List (Str × Value) := l.map fun p => (p.1, srcV vs ks p.2)
noncomputable def BindsD (s : Shared) (fd : FuncData) (args : Args) (x : Str) (binds : List (Str × Value)) : Prop :=
 ∀ (M : Model) (A : Around) (E : Value -> Shared -> Prop) (Q : List (Str × Value) -> Shared -> Prop), Q (binds ++ [(x, .ref s.heap.objs.size)]) { s with heap := s.heap.push (dictOf [] 0) } -> wpAny M A (bindArgs fd args) Q E s
inductive FnKind (K : Frag) (fn : Fn) : Prop
 | plain : fn.kwd = none -> fn.cel = none -> (∀ x ∈ fn.fd.scope.names, x.2 ≠ .cell) -> (∀ p ∈ fn.binds, fn.fd.scope.names.lookup p.1 = some .local) ->
  (∀ (s : Shared) (vs : List Value) (ks : List (Str × Value)), K.In s.heap -> vs.length = fn.npos -> ks.map (·.1) = fn.kws -> BindsTo s fn.fd ⟨vs, ks⟩ (bindsV vs ks fn.binds)) -> FnKind K fn
 | dict (x : Str) : fn.kwd = some x -> fn.cel = none -> (∀ x ∈ fn.fd.scope.names, x.2 ≠ .cell) -> (∀ p ∈ fn.binds, fn.fd.scope.names.lookup p.1 = some .local) -> fn.fd.scope.names.lookup x = some .local -> look x fn.binds = none ->
  (∀ (s : Shared) (vs : List Value) (ks : List (Str × Value)), K.In s.heap -> vs.length = fn.npos -> ks.map (·.1) = fn.kws -> BindsD s fn.fd ⟨vs, ks⟩ x (bindsV vs ks fn.binds)) -> FnKind K fn
 | cell (x : Str) : fn.kwd = none -> fn.cel = some x -> (∀ k, cellsFrom k fn.fd.scope.names [] = [(x, k)]) -> (∀ p ∈ fn.binds, p.1 ≠ x -> fn.fd.scope.names.lookup p.1 = some .local) -> fn.fd.scope.names.lookup x = some .cell -> fn.fd.closure = [] -> fn.kws = [] ->
  (∀ (vs : List Value), vs.length = fn.npos -> bindArgs fn.fd ⟨vs, []⟩ = pure (bindsV vs [] fn.binds)) -> FnKind K fn
structure FnOk (K : Frag) (f : Addr) (fn : Fn) : Prop where
 at_ : ∃ oc od sl, K.lookup f = some ⟨oc, od, .func fn.fd, sl⟩
 body : fn.fd.body = .stmts fn.body
 code : codeIn K fn.fd.code fn.fd.qualname = true
 gl : fn.fd.globals = mainGlobals
 bl : fn.fd.builtins = builtinsNs
 kd : fn.fd.scope.kind = .function
 co : fn.fd.scope.isCoroutine = false
 ge : fn.fd.scope.isGenerator = false
 nd : (fn.binds.map (·.1)).Nodup
 ki : FnKind K fn
structure TOk (K : Frag) (T : Tp) : Prop where
 gl : ∀ x v, look x T.glob = some v -> (nsIn K mainGlobals x = some (some v)) \/ (nsIn K mainGlobals x = some none /\ bootBuiltins x = some v /\ x ≠ ("__name__" : Str))
 fn : ∀ f l fn, nlook f T.fns = some l -> fn ∈ l -> FnOk K f fn
 at_ : ∀ C l, nlook C T.ats = some l -> ClsOk K C /\ ∀ x k, look x l = some k -> AtOk K C x k
section
variable (K : Frag) (prog : Program) (w : World)
noncomputable def Kt {α β : Type} (R : Rho -> α -> β -> Prop) (s : Shared) (ρ : Rho) (Q : β -> Shared -> Prop) (a : α) (σ' : St) : Prop := ∀ ρ' s' u, Rl K σ' ρ' s'.heap -> Ex ρ s.heap ρ' s'.heap -> Gs s s' -> R ρ' a u -> Q u s'
noncomputable def Wp {α β : Type} (R : Rho -> α -> β -> Prop) (A : Around) (s : Shared) (ρ : Rho) (t : Sem β) (a : α) (σ' : St) : Prop :=
 ∀ (Q : β -> Shared -> Prop) (E : Value -> Shared -> Prop), Kt K R s ρ Q a σ' -> wpAny (model prog w) A t Q E s
noncomputable def Cd {α : Type} (R : Rho -> α -> Flow -> Prop) (A : Around) (s : Shared) (ρ : Rho) (c : Code) (a : α) (σ' : St) : Prop :=
 ∀ (Q : Result -> Shared -> Prop), Kt K R s ρ (fun u => Q (.ok u)) a σ' -> codeAny (model prog w) A c Q s
structure Snd (n : Nat) (r : Rec) : Prop where
 ev : ∀ {c e σ v σ' ρ A env} {s : Shared}, r.ev c e σ = some (v, σ', true) -> Rl K σ ρ s.heap -> EnvR A c ρ env -> Room n A -> Wp K prog w VR A s ρ (eval e env) v σ'
 tr : ∀ {c e σ v σ' ρ A env} {s : Shared}, r.tr c e σ = some (v, σ', true) -> Rl K σ ρ s.heap -> EnvR A c ρ env -> Room n A -> Wp K prog w (fun ι a u => u = a) A s ρ (isTrue e env (eval e env)) v σ'
 ex : ∀ {c st σ v σ' ρ A env} {s : Shared}, r.ex c st σ = some (v, σ', true) -> Rl K σ ρ s.heap -> EnvR A c ρ env -> Room n A -> Wp K prog w FlR A s ρ (exec st env) v σ'
 call : ∀ {f vs ks σ v σ' ρ A us uks} {s : Shared}, r.call f vs ks σ = some (v, σ', true) -> Rl K σ ρ s.heap -> VRs ρ vs us -> KRs ρ ks uks -> FrA A ρ -> Room n A -> Cd K prog w (fun ρ a u => ∃ x, u = .ret x /\ VR ρ a x) A s ρ (.call (.ref f) ⟨us, uks⟩) v σ'
end
variable {K : Frag} {prog : Program} {w : World} {T : Tp} {n : Nat} {r : Rec}
theorem snd0 : Snd K prog w n rec0 := ⟨nofun, nofun, nofun, nofun⟩
theorem Room.le {n m : Nat} {A : Around} (h : Room n A) (hm : m <= n) : Room m A := ⟨by have := h.1; lia, by have := h.2.1; lia, h.2.2⟩
theorem Room.in1 {n m : Nat} {A : Around} (h : Room n A) (hm : m + 1 <= n) : Room m A.in1 := ⟨by have := h.1; show A.depth + m < _; lia, by have := h.2.1; show A.units + 1 + 8 * m < _; lia, h.2.2⟩
theorem Room.deeper {n m : Nat} {A : Around} {env : Env} (h : Room n A) (hm : m + 1 <= n) : Room m (A.deeper env) := ⟨by have := h.1; show A.depth + 1 + m < _; lia, by have := h.2.1; show A.units + 3 + 8 * m < _; lia, h.2.2⟩
theorem FrA.in1 {A : Around} {ρ : Rho} (f : FrA A ρ) : FrA A.in1 ρ := f
theorem kindOf_eq {A : Around} {c : Cx} {ρ : Rho} {env : Env} (e : EnvR A c ρ env) (x : Str) : env.kindOf x = look x c.scope.names := by
 unfold Env.kindOf; rw [e.sc, look_eq]
theorem debug_ok {M : Model} {A : Around} {E : Value -> Shared -> Prop} {s : Shared} {env : Env} {p : Pos} {Q : Value -> Shared -> Prop} (h : Q (.bool true) s) : wpAny M A (eval (.Name s_debug p) env) Q E s := by
 have : eval (.Name s_debug p) env = (do standAt p; debugConstant) := by
  show (do standAt p; if (s_debug == ("__debug__" : Str)) = true then debugConstant else loadName env s_debug) = _
  rw [if_pos (show (s_debug == ("__debug__" : Str)) = true from by decide)]
 rw [this]
 unfold debugConstant
 exact wpAny_bind (wpAny_standAt (wpAny_bind (wpAny_rule (wpAny_pure h))))
theorem cellA_ok {A : Around} {c : Cx} {x : Str} {i : Nat} {σ σ' : St} {v : AV} {ρ : Rho} {env : Env} {h : Heap} (e1 : cellA σ i = some (v, σ', true)) (R : Rl K σ ρ h) (e : EnvR A c ρ env) (hi : look x c.cells = some i) :
 σ' = σ /\ ∃ a u, env.cells.lookup x = some a /\ h.IsCell a (some u) /\ VR ρ v u :=
 bnd_el e1 fun z hz e2 => gd_el e2 fun nz e2 => ok_el e2 (by
  obtain ⟨a, p, q⟩ := e.ce x i hi
  obtain ⟨u, ic, d⟩ := (R.ob i a _ q (ceO_inv hz)).out
  rcases d with d | ⟨y, rfl, d⟩
  · exact absurd d (isUnk_ne nz)
  · exact ⟨rfl, a, y, p, ic, d⟩)
noncomputable def NmP (prog : Program) (w : World) (A : Around) (env : Env) (x : Str) (p : Pos) (s : Shared) (ρ : Rho) (σ : St) (v : AV) (σ' : St) : Prop :=
 σ' = σ /\ ∀ (Q : Value -> Shared -> Prop) (E : Value -> Shared -> Prop), (∀ u, VR ρ v u -> Q u s) -> wpAny (model prog w) A (eval (.Name x p) env) Q E s
theorem name_k (hT : TOk K T) {c : Cx} {x : Str} {p : Pos} {σ σ' : St} {v : AV} {ρ : Rho} {A : Around} {env : Env} {s : Shared} {k : NameKind} (hx : env.kindOf x = some k) (hk : env.scope.kind = .function) (hd : (x == ("__debug__" : Str)) = false) (R : Rl K σ ρ s.heap) (e : EnvR A c ρ env) (h : nameK T c x σ k = some (v, σ', true)) :
 NmP prog w A env x p s ρ σ v σ' := by
 cases k with
 | «local» =>
  exact bnd_el h fun l h1 h => bnd_el h fun u h2 h => gd_el h fun nu h => ok_el h ⟨rfl, fun Q E q => by
   obtain ⟨_, hn, hf⟩ := (R.ob _ _ _ e.loc (nsOf_eq h1)).out
   rcases hf x _ h2 with z | ⟨a, ha, hv⟩
   · exact absurd z (isUnk_ne nu)
   · exact wpAny_Name (wpAny_loadName_local hk hx hn ha (q a hv)) hd⟩
 | globalImplicit =>
  exact bnd_el h fun u h2 h => ok_el h ⟨rfl, fun Q E q => by
   obtain ⟨mg, hg⟩ := R.gd.gns
   have hg' : s.heap.Ns env.globals mg := by rw [e.gl]; exact hg
   rcases hT.gl x _ h2 with a | ⟨a, b, hn⟩
   · exact Name_function_global hk hx (loadGlobal_global hg' (mg_of R.gd.kin hg a) (q _ rfl)) hd
   · obtain ⟨mb, hb, hbq⟩ := R.gd.bns
     exact Name_function_global hk hx (loadGlobal_builtin hg' (mg_none_of R.gd.kin hg a) (by rw [e.bl]; exact hb) ((hbq x hn).trans b) (q _ rfl)) hd⟩
 | cell =>
  exact bnd_el h fun i h1 h => by
   obtain ⟨rfl, a, u, p1, p2, p3⟩ := cellA_ok h R e h1
   exact ⟨rfl, fun Q E q => wpAny_Name (wpAny_loadName_cell hk hx p1 p2 (q u p3)) hd⟩
 | free =>
  exact gd_el h fun hcd h => bnd_el h fun i h1 h => by
   obtain ⟨rfl, a, u, p1, p2, p3⟩ := cellA_ok h R e h1
   exact ⟨rfl, fun Q E q => wpAny_Name (wpAny_loadName_free (hn := beq_eq_false_iff_ne.mpr (seq_false.mp (not_el hcd))) hk hx p1 p2 (q u p3)) hd⟩
 | _ => exact none_el h
theorem name_exact (hT : TOk K T) {c : Cx} {x : Str} {p : Pos} {σ σ' : St} {v : AV} {ρ : Rho} {A : Around} {env : Env} {s : Shared} (h : nameA T c x σ = some (v, σ', true)) (R : Rl K σ ρ s.heap) (e : EnvR A c ρ env) :
 NmP prog w A env x p s ρ σ v σ' :=
 pk2_el h (fun hd h => ok_el h ⟨rfl, fun Q E q => by rw [seq_iff.mp hd]; exact debug_ok (q _ rfl)⟩) fun hd h => bnd_el h fun k hx h =>
  name_k hT ((kindOf_eq e x).trans hx) (e.sc ▸ e.fn) (beq_eq_false_iff_ne.mpr (seq_false.mp hd)) R e h
theorem name_ok (hT : TOk K T) {c : Cx} {x : Str} {p : Pos} {σ σ' : St} {v : AV} {ρ : Rho} {A : Around} {env : Env} {s : Shared} (h : nameA T c x σ = some (v, σ', true)) (R : Rl K σ ρ s.heap) (e : EnvR A c ρ env) :
 σ' = σ /\ Wp K prog w VR A s ρ (eval (.Name x p) env) v σ' := by
 obtain ⟨e1, N⟩ := name_exact (prog := prog) (w := w) (p := p) hT h R e
 subst e1
 exact ⟨rfl, fun Q E q => N Q E fun u V => q ρ s u R (.refl ..) (.refl _) V⟩
theorem getK_ok (hT : TOk K T) (L : Lo K) (S : Snd K prog w n r) {x : Str} {i d C : Nat} {σ σ' : St} {v : AV} {k : At} {ad : Addr} {ρ : Rho} {A : Around} {s : Shared} {expr : Bool} (O : ClsOk K C) (hk : AtOk K C x k) (h1 : nth σ i = some (.inst C d)) (hn : nth ρ.l i = some ad) (h : getK r i d x σ k = some (v, σ', true)) (R : Rl K σ ρ s.heap) (fa : FrA A ρ) (hr : Room (n + 1) A) :
 Wp K prog w VR A s ρ (getAttr (.ref ad) x expr) v σ' := by
 intro Q E q
 induction hk with
 | own f1 f2 f3 =>
  exact bnd_el h fun ld h3 h => bnd_el h fun y h4 h => gd_el h fun hh h => by
   obtain ⟨da, es, m, e1, I, D, g⟩ := inst_at R h1 (dictOfA_eq h3) hn
   obtain ⟨z, hz, hv⟩ := D.find h4
   have q := ok_q h q
   exact get_own_A R.gd.kin O I f1 f2 hz (handed_of hh hv) (q ρ _ z R (.refl ..) (.ht _ _ _) hv)
 | @prop p f rest f1 f2 f3 f4 =>
  exact bnd_el h fun ld h4 h => bn2_el h fun y σ₁ h3 h => gd_el h fun hy h => by
   have q := ok_q h q
   obtain ⟨da, es, m, e1, I, D, g⟩ := inst_at R h1 (dictOfA_eq h4) hn
   refine get_bind R.gd.kin I O.ga (findObj_data (by obtain ⟨cd, hc, _⟩ := any_some O.hd; rw [hc]; rfl) f1 f2 f3) O.ge (wpAny_call (prop_get (s := { s with toks := s.toks + 1 }) R.gd.kin f4 ?_))
   refine S.call (s := { s with toks := s.toks + 1 }) (us := [.ref ad]) (uks := []) h3 R (.cons ⟨ad, hn, rfl⟩ .nil) .nil fa.in1 (hr.in1 (Nat.le_refl _)) _ fun ρ' s' u R' X' G' V' => ?_
   obtain ⟨z, rfl, hv⟩ := V'
   show wpAny _ _ (handedOut z) _ _ _
   rw [handedOut_of (handed_of hy hv)]
   exact wpAny_pure (q ρ' s' z R' X' ((Gs.tt s _).trans G') hv)
 | _ => exact none_el h
theorem getA_ok (hT : TOk K T) (L : Lo K) (S : Snd K prog w n r) {x : Str} {σ σ' : St} {a v : AV} {u : Value} {ρ : Rho} {A : Around} {s : Shared} {expr : Bool} (h : getA T r a x σ = some (v, σ', true)) (R : Rl K σ ρ s.heap) (V : VR ρ a u) (fa : FrA A ρ) (hr : Room (n + 1) A) :
 Wp K prog w VR A s ρ (getAttr u x expr) v σ' :=
 ref_vr h V fun i ad hn h => bnd_el h fun p h1 h => bnd_el h fun k h2 h => bnd_el (show bnd (nlook p.1 T.ats) (look x) = some k from h2) fun l hl hx =>
  getK_ok hT L S (hT.at_ p.1 l hl).1 ((hT.at_ p.1 l hl).2 x k hx) (instOf_eq h1) hn h R fa hr
end
section
variable {K : Frag} {prog : Program} {w : World} {T : Tp} {n : Nat} {r : Rec}
noncomputable def StQ (K : Frag) (s : Shared) (ρ : Rho) (Q : Unit -> Shared -> Prop) (σ' : St) : Prop := ∀ h' tk, Rl K σ' ρ h' -> Ex ρ s.heap ρ h' -> Q () { s with heap := h', toks := tk }
theorem put_len {x : Str} {v : AV} (l : List (Str × AV)) : l.length <= (put x v l).length := by
 induction l with
 | nil => exact Nat.zero_le _
 | cons p r ih =>
  unfold put
  cases seq x p.1 with
  | true => exact Nat.le_refl _
  | false => exact Nat.succ_le_succ ih
theorem setA_ok (hT : TOk K T) (L : Lo K) {x : Str} {σ σ' : St} {a v : AV} {u y : Value} {ρ : Rho} {A : Around} {E : Value -> Shared -> Prop} {s : Shared} {z : Unit} {Q : Unit -> Shared -> Prop} (h : setA T a x v σ = some (z, σ', true)) (R : Rl K σ ρ s.heap) (V : VR ρ a u) (W : VR ρ v y)
 (q : StQ K s ρ Q σ') : wpAny (model prog w) A (setAttr u x y) Q E s :=
 ref_vr h V fun i ad hn h => bnd_el h fun p h1 h => bnd_el h fun k h2 h => gd_el h fun ho h => bnd_el h fun ld h3 h => chk_el h fun hb h => bnd_el (show bnd (nlook p.1 T.ats) (look x) = some k from h2) fun l hl hx => by
  have q := ok_u h q
  have O := hT.at_ p.1 l hl
  have h3 := dictOfA_eq h3
  obtain ⟨da, es, m, e1, I, D, g⟩ := inst_at R (instOf_eq h1) h3 hn
  have hk := O.2 x k hx
  induction hk with
  | own f1 f2 f3 =>
   refine set_own_A R.gd.kin O.1 I g f3 D.some (by have hb := Nat.le_of_ble_eq_true hb; rw [len_eq] at hb; have := put_len (x := x) (v := v) ld; have := D.length; lia) fun h' tk hs t n' sb gt => ?_
   exact q h' tk (R.set L e1 h3 rfl (sameBut_keep sb) (.dict gt (D.put W) (R.ob _ da _ e1 h3).out.choose_spec.choose_spec.2.2) nofun) (.set e1 (R.npj e1 h3 rfl) (sameBut_keep sb))
  | _ => exact ff_el ho
theorem storeK_ok (L : Lo K) {c : Cx} {x : Str} {v : AV} {y : Value} {σ σ' : St} {ρ : Rho} {A : Around} {env : Env} {E : Value -> Shared -> Prop} {s : Shared} {Q : Unit -> Shared -> Prop} {k : NameKind} (hx : env.kindOf x = some k) (h : storeK c x v σ k = some σ') (R : Rl K σ ρ s.heap) (e : EnvR A c ρ env) (W : VR ρ v y)
 (q : StQ K s ρ Q σ') : wpAny (model prog w) A (storeName env x y) Q E s := by
 cases k with
 | «local» =>
  refine bnd_el h fun l h1 h => ?_
  have q := some_q h q
  have h1 := nsOf_eq h1
  obtain ⟨m, hn, hf⟩ := (R.ob _ _ _ e.loc h1).out
  refine wpAny_storeName_local hx hn (fun h' hn' hs => ?_) (by rw [e.sc, e.fn]; rfl)
  refine q h' _ (R.set L e.loc h1 rfl (sameBut_keep hs) (.ns hn' fun z a hz => ?_) (fun ι ι => ⟨_, rfl⟩)) (.set e.loc (R.npj e.loc h1 rfl) (sameBut_keep hs))
  rw [look_put] at hz
  by_cases hzx : z = x
  · rw [if_pos (seq_iff.mpr hzx)] at hz
    exact .inr ⟨y, if_pos hzx, Option.some.inj hz ▸ W⟩
  · rw [if_neg (by rw [seq_false.mpr hzx]; decide)] at hz
    rcases hf z a hz with w | ⟨u, hu, hv⟩
    · exact .inl w
    · exact .inr ⟨u, by rw [if_neg hzx]; exact hu, hv⟩
 | cell =>
  refine bnd_el h fun i h1 h => bnd_el h fun old hi h => ?_
  have q := some_q h q
  have hi := ceO_inv hi
  obtain ⟨a, p1, p2⟩ := e.ce x i h1
  obtain ⟨u, ic, d⟩ := (R.ob i a _ p2 hi).out
  refine wpAny_storeName_cell (by rw [e.sc, e.fn]) hx p1 ic fun h' hc' hs' => ?_
  exact q h' _ (R.set L p2 hi rfl (sameBut_keep hs') (.cell hc' (.inr ⟨y, rfl, W⟩)) nofun) (.set p2 (R.npj p2 hi rfl) (sameBut_keep hs'))
 | _ => exact none_el h
theorem storeL_ok (L : Lo K) {c : Cx} {x : Str} {v : AV} {y : Value} {σ σ' : St} {ρ : Rho} {A : Around} {env : Env} {E : Value -> Shared -> Prop} {s : Shared} {Q : Unit -> Shared -> Prop} (h : storeL c x v σ = some σ') (R : Rl K σ ρ s.heap) (e : EnvR A c ρ env) (W : VR ρ v y)
 (q : StQ K s ρ Q σ') : wpAny (model prog w) A (storeName env x y) Q E s := bnd_el h fun ι hx h => storeK_ok L ((kindOf_eq e x).trans hx) h R e W q
@[elab_as_elim] theorem FRs.two {F : Fz} {l : List PyData} {vs : List Value} {β : Type} {f : PyData × PyData -> Option β} {b : β} {C : List Value -> Prop} (h : bnd (twoV l) f = some b) (V : FRs F l vs) (k : ∀ p u v, FR F p.1 u -> FR F p.2 v -> f p = some b -> C [u, v]) : C vs :=
 bnd_el h fun p h1 h2 => by
  have e := twoV_inv h1
  subst e
  obtain ⟨u, _, rfl, f1, V⟩ := V.out
  obtain ⟨v, _, rfl, f2, V⟩ := V.out
  obtain rfl := V.out
  exact k p u v f1 f2 h2
theorem extBut_all {h h' : Heap} (x : Heap.ExtBut h.objs.size h h') : ∀ b o, h.get? b = some o -> h'.get? b = some o := fun b o e => x b o (Nat.ne_of_lt (Heap.lt_size e)) e
theorem store2_ok (L : Lo K) {c : Cx} {x z : Str} {p1 p2 p3 : Pos} {k : Nat} {σ σ' : St} {ρ : Rho} {A : Around} {env : Env} {E : Value -> Shared -> Prop} {s : Shared} {Q : Unit -> Shared -> Prop} {ad : Addr} {u1 u2 : Value} {v1 v2 : AV} {n : Nat} (hh : A.handled = none) (g : s.heap.get? ad = some (tupOf ⟨[u1, u2]⟩ n)) (V1 : VR ρ v1 u1) (V2 : VR ρ v2 u2) (R : Rl K σ ρ s.heap) (e : EnvR A c ρ env)
 (h : bnd (storeL c x v1 σ) (fun σ => storeL c z v2 σ) = some σ') (q : StQ K s ρ Q σ') : wpAny (model prog w) A (assign (.Tuple [.Name x p1, .Name z p2] k p3) env (.ref ad)) Q E s := by
 refine bnd_el h fun σ₁ h1 h2 => ?_
 refine wpAny_assign_Tuple (items := ⟨[u1, u2]⟩) hh ⟨_, g, rfl, n, rfl⟩ rfl rfl fun h₀ hx => ?_
 have k := extBut_all hx
 refine wpAny_bind (f := fun ι => assignInOrder [assign (.Name z p2) env] [u2]) (wpAny_holding (wpAny_assign_Name (storeL_ok (s := { s with heap := h₀ }) L h1 (R.grow L k) e V1 fun h' tk R' X' => ?_)))
 refine wpAny_bind (f := fun ι => assignInOrder [] []) (wpAny_holding (wpAny_assign_Name (storeL_ok (s := { s with heap := h', toks := tk }) L h2 R' e V2 fun h'' tk' R'' X'' => ?_)))
 exact wpAny_pure (q h'' tk' R'' (((Ex.grow k).trans X').trans X''))
theorem tg2_el {e : Expr} {q : Str × Str} {C : Expr -> Prop} (h : tg2 e = some q) (k : ∀ p1 p2 c p, C (.Tuple [.Name q.1 p1, .Name q.2 p2] c p)) : C e :=
 bnd_el h fun es h1 h => tupE_el h1 fun c p => bnd_el h fun d h2 h => bnd_el h fun x h3 h => bnd_el h fun y h4 h => by
  obtain rfl := Option.some.inj h
  rw [twoV_inv h2]
  exact nameOf_el (C := fun e => C (.Tuple [e, d.2] c p)) h3 fun p1 => nameOf_el (C := fun e => C (.Tuple [.Name x p1, e] c p)) h4 fun p2 => k p1 p2 c p
theorem storeT_ok (L : Lo K) {c : Cx} {t : Expr} {v : AV} {y : Value} {σ σ' : St} {ρ : Rho} {A : Around} {env : Env} {E : Value -> Shared -> Prop} {s : Shared} {Q : Unit -> Shared -> Prop} (hh : A.handled = none) (h : storeT c t v σ = some σ') (R : Rl K σ ρ s.heap) (e : EnvR A c ρ env) (W : VR ρ v y)
 (q : StQ K s ρ Q σ') : wpAny (model prog w) A (assign t env y) Q E s := by
 unfold storeT at h
 cases hx : nameOf t with
 | some x =>
  rw [hx] at h
  exact nameOf_el (C := fun t => wpAny (model prog w) A (assign t env y) Q E s) hx fun p => wpAny_assign_Name (storeL_ok L h R e W q)
 | none =>
  rw [hx] at h
  refine bnd_el h fun p hp h => tg2_el (C := fun t => wpAny (model prog w) A (assign t env y) Q E s) hp fun p1 p2 k p3 => ?_
  cases v with
  | dat d =>
   exact bnd_el h fun l hl h2 => by
    obtain rfl := tupP_inv hl
    obtain ⟨ad, vs, n, rfl, g, r⟩ := (show FR ρ.F (.tuple l) y from W).out
    exact FRs.two (C := fun vs => s.heap.get? ad = some (tupOf ⟨vs⟩ n) -> _) h2 r (fun d u1 u2 f1 f2 h g => store2_ok L hh g (ofP_ok f1) (ofP_ok f2) R e h q) (R.fin _ _ g)
  | ref i =>
   exact W.rf fun ad hn => bnd_el h fun l hl h => bnd_el h fun d hd h => by
    obtain ⟨vs, n, g, r⟩ := (R.ob i ad _ hn (tpO_inv hl)).out
    rw [twoV_inv hd] at r
    exact VRs.two' (C := fun vs => s.heap.get? ad = some (tupOf ⟨vs⟩ n) -> _) r (fun u1 u2 f1 f2 g => store2_ok L hh g f1 f2 R e h q) g
  | _ => exact none_el h
noncomputable def FzQ (h : Heap) (K : Frag) (ρ : Rho) (u : Value) (p : PyData × St) : Prop := ∃ ρ', Rl K p.2 ρ' h /\ Ex ρ h ρ' h /\ FR ρ'.F p.1 u
theorem frzP_ok {σ : St} {ρ : Rho} {h : Heap} {v : AV} {u : Value} {p : PyData × St} (R : Rl K σ ρ h) (e : (bnd (toP v) fun d => some (d, σ)) = some p) (V : VR ρ v u) : FzQ h K ρ u p := bnd_el e fun d h1 e => some_el e ⟨ρ, R, .refl .., toP_ok h1 V⟩
theorem frzO_ok {σ : St} {ρ : Rho} {h : Heap} {i : Nat} {a : Addr} {p : PyData × St} {oo : Option AO} (R : Rl K σ ρ h) (ha : nth ρ.l i = some a) (hl : nth σ i = oo) (e : frzO i σ oo = some p) : FzQ h K ρ (.ref a) p := by
 cases oo with
 | none => exact none_el e
 | some o =>
  have O := (R.ob i a _ ha hl).out
  cases o with
  | list l =>
   obtain ⟨vs, n, g, W⟩ := O
   have W' := W.mono (Fz.add_sub (o := listOf ⟨vs⟩ n) (R.fz i a _ ha hl rfl).1)
   obtain ⟨R', X'⟩ := R.frzAt (o' := .frl l) ha hl rfl g rfl (.frl (Fz.add_self ..) W') nofun
   exact some_el e ⟨_, R', X', .list (Fz.add_self ..) W'⟩
  | frl l =>
   obtain ⟨_, _, g, W⟩ := O
   exact some_el e ⟨ρ, R, .refl .., .list g W⟩
  | _ => exact none_el e
theorem frzL_ok {σ : St} {ρ : Rho} {h : Heap} {v : AV} {u : Value} {p : PyData × St} (R : Rl K σ ρ h) (e : frzL v σ = some p) (V : VR ρ v u) : FzQ h K ρ u p := by
 cases v with
 | ref i => exact V.rf fun a ha => frzO_ok R ha rfl e
 | _ => exact frzP_ok R e V
noncomputable def FzsQ (h : Heap) (K : Frag) (ρ : Rho) (us : List Value) (p : List PyData × St) : Prop := ∃ ρ', Rl K p.2 ρ' h /\ Ex ρ h ρ' h /\ FRs ρ'.F p.1 us
theorem FzsQ.cons {h : Heap} {ρ : Rho} {u : Value} {us : List Value} {p : PyData × St} {q : List PyData × St} (x : FzQ h K ρ u p) (y : ∀ ρ', Rl K p.2 ρ' h -> Ex ρ h ρ' h -> FzsQ h K ρ' us q) : FzsQ h K ρ (u :: us) (p.1 :: q.1, q.2) := by
 obtain ⟨ρ1, R1, X1, f1⟩ := x
 obtain ⟨ρ2, R2, X2, f2⟩ := y ρ1 R1 X1
 exact ⟨ρ2, R2, X1.trans X2, .cons (f1.mono X2.fr) f2⟩
theorem frzLs_ok {h : Heap} {l : List AV} : ∀ {σ : St} {ρ : Rho} {vs : List Value} {p : List PyData × St}, Rl K σ ρ h -> frzLs l σ = some p -> VRs ρ l vs -> FzsQ h K ρ vs p := by
 induction l with
 | nil => exact fun R e V => VRs.nil_el rfl V (some_el e ⟨_, R, .refl .., .nil⟩)
 | cons a l ih => exact fun R e V => bnd_el e fun d h1 e => bnd_el e fun ds h2 e => V.cons_el fun u r v V => some_el e (.cons (frzL_ok R h1 v) fun ρ' R' X' => ih R' h2 (V.ex X'))
theorem frzT_ok {σ : St} {ρ : Rho} {h : Heap} {i : Nat} {a : Addr} {p : PyData × St} {oo : Option AO} (R : Rl K σ ρ h) (ha : nth ρ.l i = some a) (hl : nth σ i = oo) (e : frzT i σ oo = some p) : FzQ h K ρ (.ref a) p := by
 have low : frzO i σ oo = some p -> FzQ h K ρ (.ref a) p := frzO_ok R ha hl
 cases oo with
 | none => exact none_el e
 | some o =>
  cases o with
  | tuple l =>
   exact bnd_el e fun q h1 e => some_el e (by
    obtain ⟨vs, n, g, W⟩ := (R.ob i a _ ha hl).out
    obtain ⟨R1, X1⟩ := R.frzAt (o' := .junk) ha hl rfl g rfl .junk nofun
    obtain ⟨ρ2, R2, X2, f2⟩ := frzLs_ok R1 h1 (W.ex X1)
    exact ⟨ρ2, R2, X1.trans X2, .tuple (X2.fr _ _ (Fz.add_self ..)) f2⟩)
  | _ => exact low e
theorem frz_ok {σ : St} {ρ : Rho} {h : Heap} {v : AV} {u : Value} {p : PyData × St} (R : Rl K σ ρ h) (e : frz v σ = some p) (V : VR ρ v u) : FzQ h K ρ u p := by
 cases v with
 | ref i => exact V.rf fun a ha => frzT_ok R ha rfl e
 | _ => exact frzP_ok R e V
theorem frzs_ok {h : Heap} {l : List AV} : ∀ {σ : St} {ρ : Rho} {vs : List Value} {p : List PyData × St}, Rl K σ ρ h -> frzs l σ = some p -> VRs ρ l vs -> FzsQ h K ρ vs p := by
 induction l with
 | nil => exact fun R e V => VRs.nil_el rfl V (some_el e ⟨_, R, .refl .., .nil⟩)
 | cons a l ih => exact fun R e V => bnd_el e fun d h1 e => bnd_el e fun ds h2 e => V.cons_el fun u r v V => some_el e (.cons (frz_ok R h1 v) fun ρ' R' X' => ih R' h2 (V.ex X'))
theorem toPs_ok {ρ : Rho} {l : List AV} : ∀ {vs : List Value} {ds : List PyData}, toPs l = some ds -> VRs ρ l vs -> FRs ρ.F ds vs := by
 induction l with
 | nil => exact fun e V => VRs.nil_el rfl V (some_el e .nil)
 | cons a l ih => exact fun e V => bnd_el e fun d h1 e => bnd_el e fun ds h2 e => V.cons_el fun u r v V => some_el e (.cons (toP_ok h1 v) (ih h2 V))
theorem evs_nil {r : Rec} {c : Cx} {σ : St} : evsA r c [] σ = some ([], σ, true) := by unfold evsA ok; rfl
theorem star_ok {x : Expr} {l : List Expr} {env : Env} (h : isStar x = false) : starEach (x :: l) env = (false, eval x env) :: starEach l env := by
 cases x <;> first | rfl | exact ff_el h.symm
theorem evs_ok (S : Snd K prog w n r) {c : Cx} {env : Env} {A : Around} {pos : Pos} (hr : Room n A) {es : List Expr} : ∀ {σ σ' : St} {v : List AV} {ρ : Rho} {s : Shared}, evsA r c es σ = some (v, σ', true) -> plainArgs es = true -> Rl K σ ρ s.heap -> EnvR A c ρ env ->
 Wp K prog w VRs A s ρ (spliced (backTo pos (starEach es env))) v σ' := by
 induction es with
 | nil => exact fun h hp R e Q E q => wpAny_items_nil (ok_q h q _ _ [] R (.refl ..) (.refl _) .nil)
 | cons x l ih =>
  intro σ σ' v ρ s h hp R e Q E q
  exact and_el hp fun h0 hp => bn2_el h fun a σ₁ h1 h => bn2_el h fun b σ2 h2 h => wpAny_items_cons (S.ev h1 R e hr _ _ fun ρ1 s₁ u R1 X1 G1 V1 => ih (s := s₁) h2 hp R1 (e.ex X1) _ _ fun ρ2 s2 us R2 X2 G2 V2 =>
   ok_q h q ρ2 s2 _ R2 (X1.trans X2) (G1.trans G2) (.cons (V1.ex X2) V2)) (star_ok (not_el h0))
theorem evk_ok (S : Snd K prog w n r) {c : Cx} {env : Env} {A : Around} {pos : Pos} (hr : Room n A) {kws : List Keyword} : ∀ {σ σ' : St} {v : List AV} {ρ : Rho} {s : Shared}, evsA r c (kwVals kws) σ = some (v, σ', true) -> Rl K σ ρ s.heap -> EnvR A c ρ env ->
 Wp K prog w VRs A s ρ (evalAll ((backToKw pos (keywordEach kws env)).map (·.2))) v σ' := by
 induction kws with
 | nil => exact fun h R e Q E q => wpAny_evalAll_nil (ok_q h q _ _ [] R (.refl ..) (.refl _) .nil)
 | cons k l ih =>
  intro σ σ' v ρ s h R e Q E q
  obtain ⟨nm, ex, px⟩ := k
  show wpAny _ _ (evalAll ((do let v <- eval ex env; standAt pos; pure v) :: (backToKw pos (keywordEach l env)).map (·.2))) Q E s
  exact bn2_el h fun a σ₁ h1 h => bn2_el h fun b σ2 h2 h => wpAny_evalAll_cons (wpAny_bind (S.ev h1 R e hr _ _ fun ρ1 s₁ u R1 X1 G1 V1 => wpAny_bind (wpAny_standAt (wpAny_pure (ih (s := s₁) h2 R1 (e.ex X1) _ _ fun ρ2 s2 us R2 X2 G2 V2 =>
   ok_q h q ρ2 s2 _ R2 (X1.trans X2) (G1.trans G2) (.cons (V1.ex X2) V2))))))
theorem trs_ok (S : Snd K prog w n r) {c : Cx} {op : Bool} {env : Env} {A : Around} (hr : Room n A) {es : List Expr} : ∀ {σ σ' : St} {v : Bool} {ρ : Rho} {s : Shared}, trsA r c op es σ = some (v, σ', true) -> Rl K σ ρ s.heap -> EnvR A c ρ env ->
 Wp K prog w (fun ι a u => u = a) A s ρ (allTrue (if op then .And else .Or) es env) v σ' := by
 induction es with
 | nil =>
  intro σ σ' v ρ s h R e Q E q
  have q := ok_q h q
  cases op
  · exact wpAny_allTrue_Or_nil (q ρ s _ R (.refl ..) (.refl _) rfl)
  · exact wpAny_allTrue_And_nil (q ρ s _ R (.refl ..) (.refl _) rfl)
 | cons x l ih =>
  intro σ σ' v ρ s h R e Q E q
  refine bn2_el h fun a σ₁ h1 h => ?_
  cases op
  · refine wpAny_allTrue_Or_cons (S.tr h1 R e hr _ _ fun ρ1 s₁ u R1 X1 G1 V1 => ?_)
    rw [V1]
    cases a
    · exact ih (s := s₁) h R1 (e.ex X1) _ _ fun ρ2 s2 us R2 X2 G2 V2 => q ρ2 s2 _ R2 (X1.trans X2) (G1.trans G2) V2
    · exact ok_q h q ρ1 s₁ _ R1 X1 G1 rfl
  · refine wpAny_allTrue_And_cons (S.tr h1 R e hr _ _ fun ρ1 s₁ u R1 X1 G1 V1 => ?_)
    rw [V1]
    cases a
    · exact ok_q h q ρ1 s₁ _ R1 X1 G1 rfl
    · exact ih (s := s₁) h R1 (e.ex X1) _ _ fun ρ2 s2 us R2 X2 G2 V2 => q ρ2 s2 _ R2 (X1.trans X2) (G1.trans G2) V2
theorem cmpE_ok (S : Snd K prog w n r) (hn : 10 <= n) {c : Cx} {l q : Expr} {op : CmpOp} {σ σ' : St} {v : Bool} {ρ : Rho} {A : Around} {env : Env} {s : Shared} {Q : Value -> Shared -> Prop} {E : Value -> Shared -> Prop} (h : cmpE r c l op q σ = some (v, σ', true)) (R : Rl K σ ρ s.heap) (e : EnvR A c ρ env) (hr : Room n A)
 (k : ∀ ρ' s', Rl K σ' ρ' s'.heap -> Ex ρ s.heap ρ' s'.heap -> Gs s s' -> Q (.bool v) s') : behindInMarks op q = false /\ wpAny (model prog w) A (eval l env) (fun a => wpAny (model prog w) A (eval q env) (fun b => wpAny (model prog w) A (compareOp op a b) Q E) E) E s :=
 gd_el h fun hq h => bn2_el h fun a σ₁ h1 h => bn2_el h fun b σ2 h2 h => ⟨by cases q <;> first | rfl | exact ff_el hq, S.ev h1 R e hr _ _ fun ρ1 s₁ u R1 X1 G1 V1 => S.ev (s := s₁) h2 R1 (e.ex X1) hr _ _ fun ρ2 s2 u2 R2 X2 G2 V2 =>
  cmpA_ok (s := s2) (hr.le hn) R2 h (V1.ex X2) V2 fun hs => k ρ2 s2 (hs ▸ R2) (X1.trans X2) (G1.trans G2)⟩
theorem tr_gen {x : Expr} (hg : genE x = true) {env : Env} {t : Sem Value} : isTrue x env t = (do let v <- t; standAt x.pos; holding [v] (truthy v)) := by
 cases x <;> first | rfl | exact ff_el hg
theorem tr_ok (S : Snd K prog w n r) (hn : 10 <= n) {c : Cx} {x : Expr} {σ σ' : St} {v : Bool} {ρ : Rho} {A : Around} {env : Env} {s : Shared} (h : trA T r c x σ = some (v, σ', true)) (R : Rl K σ ρ s.heap) (e : EnvR A c ρ env) (hr : Room n A) :
 Wp K prog w (fun ι a u => u = a) A s ρ (isTrue x env (eval x env)) v σ' := by
 intro Q E q
 have gen : gd (genE x) (bn2 (r.ev c x σ) fun v σ => truthA v σ) = some (v, σ', true) -> wpAny (model prog w) A (isTrue x env (eval x env)) Q E s := fun h =>
  gd_el h fun hg h => bn2_el h fun a σ₁ h1 h => wpAny_isTrue_value (S.ev h1 R e hr _ _ fun ρ1 s₁ u R1 X1 G1 V1 => truth_ok (s := s₁) R1 h V1 fun hs tk => q ρ1 _ _ (hs ▸ R1) X1 (G1.trans (.tt _ _)) rfl) (tr_gen hg)
 cases x with
 | UnaryOp op x p =>
  exact gd_el h fun ho h => bn2_el h fun a σ₁ h1 h => by
   have q := ok_q h q
   cases op with
   | Not =>
    refine wpAny_isTrue_Not (S.tr h1 R e hr _ _ fun ρ1 s₁ u R1 X1 G1 V1 => ?_)
    rw [V1]
    exact q ρ1 s₁ _ R1 X1 G1 rfl
   | _ => exact ff_el ho
 | BoolOp op es p =>
  cases op with
  | And => exact wpAny_isTrue_BoolOp (trs_ok S (op := true) hr h R e _ _ q)
  | Or => exact wpAny_isTrue_BoolOp (trs_ok S (op := false) hr h R e _ _ q)
 | Compare l ops qs p =>
  exact bnd_el h fun op h1 h => bnd_el h fun y h2 h => by
   rw [oneV_inv h1, oneV_inv h2]
   obtain ⟨k1, k2⟩ := cmpE_ok S hn (Q := fun u s => wpAny (model prog w) A (truthy u) Q E s) (E := E) h R e hr fun ρ2 s2 R2 X2 G2 => wpAny_truthy_bool (q ρ2 s2 _ R2 X2 G2 rfl)
   exact wpAny_isTrue_Compare1 k2 k1
 | _ => exact gen h
end
section
open MeetsSeq SeqAt
open AutoSeq1 (wpAny_loadPart')
theorem remove_loopAt (l : Addr) (items : Array Value) (n : Nat) (x : Value) (e : Value -> Bool) (j : Nat) (hj : j < items.size) (hit : e items[j] = true) (k : Nat) (hs1 : items.size <= sizeLine) :
 ∀ i : Nat, j - i = k -> i <= j -> (∀ m (hm : m < items.size), i <= m -> m < j -> e items[m] = false) -> Meets (Builtin.«list.remove.loop» ⟨[.ref l, x, rawInt i], []⟩)
  (fun A R s => s.heap.get? l = some { cls := .type "list", dict := none, data := .seq items n, slots := #[] } /\ (∀ y, y ∈ items -> EqAt A.in1 s y x (e y)) /\ R (.ok (.ret .none)) { s with heap := s.heap.update l (Obj.mapSeq fun xs => xs.eraseIdxIfInBounds j) }) := by
 induction k with
 | zero =>
  intro i hk hij hno prog w A R s h
  obtain ⟨hp, g, d, tk, os⟩ := s; obtain ⟨hl, he, h⟩ := h
  have hij' : i = j := by lia
  subst hij'
  wp_walk using wpAny_loadPart' hl
  have hi : items[((i : Nat) : Int).toNat]? = some items[i] := by simp [hj]
  rw [hi]
  refine wpAny_bind (he _ (Array.getElem_mem hj) prog w _ _ ?_)
  rw [hit]
  have hz' : (items.eraseIdxIfInBounds i).size <= sizeLine + 1 := Nat.le_trans (size_erased items _) (Nat.le_succ_of_le hs1)
  wp_walk using (wpAny_updateSeq hl rfl (hz := hs1) (_hz' := hz')), wpAny_loadPart' hl
  simpa using h
 | succ k ih =>
  intro i hk hij hno prog w A R s h
  obtain ⟨hp, g, d, tk, os⟩ := s; obtain ⟨hl, he, h⟩ := h
  have hlt : i < items.size := by exact Nat.lt_of_le_of_lt ‹_› ‹_›
  wp_walk using wpAny_loadPart' hl
  have hi : items[((i : Nat) : Int).toNat]? = some items[i] := by simp [hlt]
  have hc : ((i : Int) + 1) = ((i + 1 : Nat) : Int) := by push_cast; rfl
  rw [hi]
  refine wpAny_bind (he _ (Array.getElem_mem hlt) prog w _ _ ?_)
  rw [hno i hlt (Nat.le_refl _) (by lia)]
  wp_walk
  rw [hc]
  exact ⟨plainId_quiet plain_remove_loop _, codeAny_builtin entry_remove_loop (by
   rw [Around.under_plainId plain_remove_loop _]
   exact ih (i + 1) (by lia) (by lia) (fun m hm h1 h2 => hno m hm (le_t ‹_›) h2) prog w A R _ ⟨hl, he, h⟩)⟩
theorem list_removeAt (l : Addr) (items : Array Value) (n : Nat) (x : Value) (e : Value -> Bool) (j : Nat) (hj : j < items.size) (hit : e items[j] = true) (hno : ∀ m (hm : m < items.size), m < j -> e items[m] = false) (hs1 : items.size <= sizeLine) :
 Meets (Builtin.«list.remove» ⟨[.ref l, x], []⟩)
  (fun A R s => s.heap.get? l = some { cls := .type "list", dict := none, data := .seq items n, slots := #[] } /\ (∀ y, y ∈ items -> EqAt A.in1 s y x (e y)) /\ R (.ok (.ret .none)) { s with heap := s.heap.update l (Obj.mapSeq fun xs => xs.eraseIdxIfInBounds j) }) := by
 intro prog w A R s h
 obtain ⟨hp, g, d, tk, os⟩ := s; obtain ⟨hl, he, h⟩ := h
 wp_walk using wpAny_loadPart' hl
 exact ⟨plainId_quiet plain_remove_loop _, codeAny_builtin entry_remove_loop (by
  rw [Around.under_plainId plain_remove_loop _]
  exact remove_loopAt l items n x e j hj hit _ hs1 0 rfl (Nat.zero_le _) (fun m hm ι h2 => hno m hm h2) prog w A R _ ⟨hl, he, h⟩)⟩
theorem remove_loop_noneAt (l : Addr) (items : Array Value) (n : Nat) (x : Value) (e : Value -> Bool) (hno : ∀ m (hm : m < items.size), e items[m] = false) (k : Nat) :
 ∀ i : Nat, items.size - i = k -> Meets (Builtin.«list.remove.loop» ⟨[.ref l, x, rawInt i], []⟩)
  (fun A R s => s.heap.get? l = some { cls := .type "list", dict := none, data := .seq items n, slots := #[] } /\ (∀ y, y ∈ items -> EqAt A.in1 s y x (e y)) /\ raisesNew "ValueError" A R s) := by
 induction k with
 | zero =>
  intro i hk prog w A R s h
  obtain ⟨hp, g, d, tk, os⟩ := s; obtain ⟨hl, he, h⟩ := h
  wp_walk using wpAny_loadPart' hl
  have hi : items[((i : Nat) : Int).toNat]? = none := by simp; lia
  rw [hi]
  wp_walk
  exact_raiseError plainExc_ValueError h.1 h.2
 | succ k ih =>
  intro i hk prog w A R s h
  obtain ⟨hp, g, d, tk, os⟩ := s; obtain ⟨hl, he, h⟩ := h
  have hlt : i < items.size := by lia
  wp_walk using wpAny_loadPart' hl
  have hi : items[((i : Nat) : Int).toNat]? = some items[i] := by simp [hlt]
  have hc : ((i : Int) + 1) = ((i + 1 : Nat) : Int) := by push_cast; rfl
  rw [hi]
  refine wpAny_bind (he _ (Array.getElem_mem hlt) prog w _ _ ?_)
  rw [hno i hlt]
  wp_walk
  rw [hc]
  exact ⟨plainId_quiet plain_remove_loop _, codeAny_builtin entry_remove_loop (by
   rw [Around.under_plainId plain_remove_loop _]
   exact ih (i + 1) (by lia) prog w A R _ ⟨hl, he, h⟩)⟩
theorem list_remove_noneAt (l : Addr) (items : Array Value) (n : Nat) (x : Value) (e : Value -> Bool) (hno : ∀ m (hm : m < items.size), e items[m] = false) :
 Meets (Builtin.«list.remove» ⟨[.ref l, x], []⟩)
  (fun A R s => s.heap.get? l = some { cls := .type "list", dict := none, data := .seq items n, slots := #[] } /\ (∀ y, y ∈ items -> EqAt A.in1 s y x (e y)) /\ raisesNew "ValueError" A R s) := by
 intro prog w A R s h
 obtain ⟨hp, g, d, tk, os⟩ := s; obtain ⟨hl, he, h⟩ := h
 wp_walk using wpAny_loadPart' hl
 exact ⟨plainId_quiet plain_remove_loop _, codeAny_builtin entry_remove_loop (by
  rw [Around.under_plainId plain_remove_loop _]
  exact remove_loop_noneAt l items n x e hno _ 0 rfl prog w A R _ ⟨hl, he, h⟩)⟩
end
section
variable {K : Frag} {prog : Program} {w : World} {T : Tp} {n : Nat} {r : Rec}
theorem remP_some {d : PyData} {l : List PyData} : ∀ {k : List PyData}, remP d l = some k -> ∃ p a q, l = p ++ a :: q /\ k = p ++ q /\ pdEq a d = true /\ ∀ b ∈ p, pdEq b d = false := by
 induction l with
 | nil => exact fun h => none_el h
 | cons a l ih =>
  exact fun h => pk2_el h (fun q h => some_el h ⟨[], a, l, rfl, rfl, q, nofun⟩) fun q h => bnd_el h fun m h1 h => some_el h (by
   obtain ⟨p, x, t, e1, e2, e, f⟩ := ih h1
   exact ⟨a :: p, x, t, congrArg _ e1, congrArg _ e2, e, List.forall_mem_cons.mpr ⟨q, f⟩⟩)
theorem remP_none {d : PyData} {l : List PyData} : remP d l = none -> ∀ b ∈ l, pdEq b d = false := by
 induction l with
 | nil => exact fun ι ι h => nomatch h
 | cons a l ih =>
  intro h
  unfold remP pk bnd at h
  cases q : pdEq a d with
  | true => rw [q] at h; exact none_el h.symm
  | false =>
   rw [q] at h
   refine List.forall_mem_cons.mpr ⟨q, ih ?_⟩
   cases e : remP d l with
   | none => rfl
   | some m => rw [e] at h; exact none_el h.symm
theorem FRs.mem {F : Fz} {l : List PyData} {vs : List Value} (h : FRs F l vs) : ∀ v ∈ vs, ∃ d ∈ l, FR F d v :=
 FRs.ind (P := fun l vs => ∀ v ∈ vs, ∃ d ∈ l, FR F d v) (fun ι h => nomatch h) (fun {d u l vs} a _ ih v hv => by
  rcases List.mem_cons.mp hv with e | hv
  · exact ⟨d, .head _, e ▸ a⟩
  · obtain ⟨e, he, f⟩ := ih v hv
    exact ⟨e, .tail _ he, f⟩) h
theorem lastP_ok {l : List PyData} : ∀ {p : List PyData × PyData}, lastP l = some p -> l = p.1 ++ [p.2] := by
 induction l with
 | nil => exact fun h => none_el h
 | cons a l ih =>
  cases l with
  | nil => exact fun h => some_el h rfl
  | cons b l => exact fun h => bnd_el h fun q h1 h => some_el h (congrArg _ (ih h1))
theorem list_inj {vs us : List Value} {n m : Nat} (h : listOf ⟨vs⟩ n = listOf ⟨us⟩ m) : vs = us := by
 injection h with _ _ h
 injection h with h
 injection h
theorem tup_inj {vs us : List Value} {n m : Nat} (h : tupOf ⟨vs⟩ n = tupOf ⟨us⟩ m) : vs = us := by
 injection h with _ _ h
 injection h with h
 injection h
theorem list_ne_tup {vs us : List Value} {n m : Nat} (h : listOf ⟨vs⟩ n = tupOf ⟨us⟩ m) : False := by
 injection h with h
 injection h with h
 exact absurd h (by decide)
theorem FR.det {F : Fz} {d : PyData} {v : Value} (h : FR F d v) : ∀ {e : PyData}, FR F e v -> d = e :=
 FR.rec (motive_1 := fun d v ι => ∀ {e : PyData}, FR F e v -> d = e) (motive_2 := fun l vs ι => ∀ {m : List PyData}, FRs F m vs -> l = m)
  (fun {e} h => by
   have W := h.out
   cases e <;> first | rfl | exact W.elim | exact Value.noConfusion W | exact W.elim fun ι W => Value.noConfusion W | exact W.elim fun ι W => W.elim fun ι W => W.elim fun ι W => Value.noConfusion W.1)
  (fun b {e} h => by
   have W := h.out
   cases e <;> first | exact Value.noConfusion W fun e => congrArg PyData.bool e | exact W.elim | exact Value.noConfusion W | exact W.elim fun ι W => Value.noConfusion W | exact W.elim fun ι W => W.elim fun ι W => W.elim fun ι W => Value.noConfusion W.1)
  (fun i t {e} h => by
   have W := h.out
   cases e <;> first | (obtain ⟨_, W⟩ := W; injection W with W _; rw [W]) | exact W.elim | exact Value.noConfusion W | exact W.elim fun ι W => Value.noConfusion W | exact W.elim fun ι W => W.elim fun ι W => W.elim fun ι W => Value.noConfusion W.1)
  (fun x t {e} h => by
   have W := h.out
   cases e <;> first | (obtain ⟨_, W⟩ := W; injection W with W _; rw [W]) | exact W.elim | exact Value.noConfusion W | exact W.elim fun ι W => Value.noConfusion W | exact W.elim fun ι W => W.elim fun ι W => W.elim fun ι W => Value.noConfusion W.1)
  (fun {a vs n l} f _ ih {e} h => by
   have W := h.out
   cases e <;> first
    | (obtain ⟨a', vs', n', W, f', r⟩ := W; injection W with W; subst W; have q := list_inj (Option.some.inj (f.symm.trans f')); subst q; rw [ih r])
    | (obtain ⟨a', vs', n', W, f', r⟩ := W; injection W with W; subst W; exact (list_ne_tup (Option.some.inj (f.symm.trans f'))).elim)
    | exact W.elim | exact Value.noConfusion W | exact W.elim fun ι W => Value.noConfusion W)
  (fun {a vs n l} f _ ih {e} h => by
   have W := h.out
   cases e <;> first
    | (obtain ⟨a', vs', n', W, f', r⟩ := W; injection W with W; subst W; have q := tup_inj (Option.some.inj (f.symm.trans f')); subst q; rw [ih r])
    | (obtain ⟨a', vs', n', W, f', r⟩ := W; injection W with W; subst W; exact (list_ne_tup (Option.some.inj (f'.symm.trans f))).elim)
    | exact W.elim | exact Value.noConfusion W | exact W.elim fun ι W => Value.noConfusion W)
  (fun {m} h => by
   have W := h.out
   cases m with
   | nil => rfl
   | cons => obtain ⟨_, _, W, _⟩ := W; cases W)
  (fun {d v l vs} _ _ ih1 ih2 {m} h => by
   have W := h.out
   cases m with
   | nil => cases W
   | cons e m => obtain ⟨_, _, W, a, r⟩ := W; injection W with W1 W2; subst W1; subst W2; rw [ih1 a, ih2 r]) h
noncomputable def eqTo (F : Fz) (d : PyData) (v : Value) : Bool := by
 classical
 exact decide (∃ e, FR F e v /\ pdEq e d = true)
theorem eqTo_eq {F : Fz} {d e : PyData} {v : Value} (h : FR F e v) : eqTo F d v = pdEq e d := by
 classical
 show decide _ = _
 cases q : pdEq e d with
 | true => exact decide_eq_true ⟨e, h, q⟩
 | false =>
  refine decide_eq_false fun ⟨e', h', q'⟩ => ?_
  rw [h'.det h, q] at q'; cases q'
theorem canLayAll_mem : ∀ {l : List PyData} {d : PyData}, PyData.canLayAll0 l = true -> d ∈ l -> d.canLay0 = true
 | a :: l, d, h, hd => by
  simp only [PyData.canLayAll0, Bool.and_eq_true] at h
  rcases List.mem_cons.mp hd with rfl | hd
  · exact h.1
  · exact canLayAll_mem h.2 hd
theorem eqTo_at {F : Fz} {A : Around} {s : Shared} {l : List PyData} {vs : List Value} {d : PyData} {u : Value} (k : FSub F s.heap.get?) (W : FRs F l vs) (D : FR F d u) (s1 : shp d = true) (s2 : shp (.list l) = true) (hu : A.units + 66 < cLine) :
 ∀ y, y ∈ (⟨vs⟩ : Array Value) -> SeqAt.EqAt A.in1 s y u (eqTo F d y) := by
 intro y hy
 obtain ⟨e, he, fe⟩ := W.mem y (by simpa using hy)
 rw [eqTo_eq fe, pdEq_eqv]
 obtain ⟨as, r1⟩ := fe.reads k
 obtain ⟨bs, r2⟩ := D.reads k
 have c1 : PyData.canLayAll0 l = true := SeqAt.canLay_of_shaped s2
 refine SeqAt.eqAt_reads _ _ _ _ _ _ _ _ r1 r2 (canLayAll_mem c1 he) (SeqAt.canLay_of_shaped s1) ?_
 have := SeqAt.depth_of_shaped s1
 have h2 : min e.depth d.depth <= d.depth := Nat.min_le_right _ _
 show A.units + 1 + _ < _
 lia
section lists
variable {A : Around} {E : Value -> Shared -> Prop} {s : Shared} {σ : St} {ρ : Rho} {i : Nat} {a : Addr} {l : List PyData}
theorem size_mk (vs : List Value) : (⟨vs⟩ : Array Value).size = vs.length := rfl
theorem remove_some {k : List PyData} {d : PyData} {u : Value} {Q : Value -> Shared -> Prop} (L : Lo K) (R : Rl K σ ρ s.heap) (ha : nth ρ.l i = some a) (hi : nth σ i = some (.list l)) (hk : remP d l = some k) (D : FR ρ.F d u) (fl : fit l = true) (s1 : shp d = true) (s2 : shp (.list l) = true) (hu : A.units + 66 < cLine)
 (q : ∀ h', Rl K (setNth σ i (.list k)) ρ h' -> Ex ρ s.heap ρ h' -> Q .none { s with heap := h' }) : wpAny (model prog w) A (call (.builtin "list.remove") [.ref a, u]) Q E s := by
 obtain ⟨vs, n, g, W⟩ := (R.ob i a _ ha hi).out
 have fl := fit_ok fl
 have hz : (⟨vs⟩ : Array Value).size <= sizeLine := by rw [size_mk, W.length, sizeLine_eq]; exact le_c ‹_› rfl
 have eqs := eqTo_at (A := A) R.fin W D s1 s2 hu
 obtain ⟨p, x, t, rfl, rfl, e1, e2⟩ := remP_some hk
 refine FRs.split_el (C := fun vs => s.heap.get? a = some (listOf ⟨vs⟩ n) -> (⟨vs⟩ : Array Value).size <= sizeLine -> (∀ y, y ∈ (⟨vs⟩ : Array Value) -> SeqAt.EqAt A.in1 s y u (eqTo ρ.F d y)) -> _) W (fun us v ws W1 f W3 g hz eqs => ?_) g hz eqs
 · have lt : us.length < (⟨us ++ v :: ws⟩ : Array Value).size := by rw [size_mk]; simp
   refine call_meets F.slot_list_remove ⟨_, g, rfl⟩ F.entry_list_remove (F.args_list_remove_2 _ _) (list_removeAt a ⟨us ++ v :: ws⟩ n u (eqTo ρ.F d) us.length lt ?_ ?_ hz) ⟨g, eqs, ?_⟩
   · have : (⟨us ++ v :: ws⟩ : Array Value)[us.length] = v := by simp
     rw [this, eqTo_eq f]; exact e1
   · intro m hm hlt
     have : (⟨us ++ v :: ws⟩ : Array Value)[m] = us[m] := by simp [List.getElem_append_left hlt]
     rw [this]
     obtain ⟨y, hy, fy⟩ := W1.mem us[m] (List.getElem_mem _)
     rw [eqTo_eq fy]; exact e2 y hy
   · have U := IsL.update g (fun xs => xs.eraseIdxIfInBounds us.length)
     have er : (⟨us ++ v :: ws⟩ : Array Value).eraseIdxIfInBounds us.length = ⟨us ++ ws⟩ := kl_erase us ws v
     have sb : Heap.SameBut a s.heap (s.heap.update a (Obj.mapSeq fun xs => xs.eraseIdxIfInBounds us.length)) := Heap.SameBut.update ..
     rw [er] at U
     exact q _ (R.set L ha hi rfl (sameBut_keep sb) (.list U (W1.append W3)) nofun) (.set ha (R.npj ha hi rfl) (sameBut_keep sb))
theorem pop_ok {p : List PyData} {d : PyData} {Q : Value -> Shared -> Prop} (L : Lo K) (R : Rl K σ ρ s.heap) (ha : nth ρ.l i = some a) (hi : nth σ i = some (.list l)) (hp : lastP l = some (p, d)) (fl : fit l = true)
 (q : ∀ h' u, FR ρ.F d u -> Rl K (setNth σ i (.list p)) ρ h' -> Ex ρ s.heap ρ h' -> Q u { s with heap := h' }) : wpAny (model prog w) A (call (.builtin "list.pop") [.ref a]) Q E s := by
 obtain ⟨vs, n, g, W⟩ := (R.ob i a _ ha hi).out
 have fl := fit_ok fl
 have hz : (⟨vs⟩ : Array Value).size <= sizeLine := by rw [size_mk, W.length, sizeLine_eq]; exact le_c ‹_› rfl
 have := lastP_ok hp
 subst this
 refine FRs.split_el (C := fun vs => s.heap.get? a = some (listOf ⟨vs⟩ n) -> (⟨vs⟩ : Array Value).size <= sizeLine -> _) W (fun us v ws W1 f W3 g hz => ?_) g hz
 · obtain rfl := W3.out
   have sz : (⟨us ++ [v]⟩ : Array Value).size - 1 = us.length := by rw [size_mk]; simp
   refine call_meets F.slot_list_pop ⟨_, g, rfl⟩ F.entry_list_pop (F.args_list_pop_1 _) (MeetsSeq.list_pop_last a ⟨us ++ [v]⟩ n v (by rw [sz]; simp) hz) ⟨g, ?_⟩
   rw [sz]
   have U := IsL.update g (fun xs => xs.eraseIdxIfInBounds us.length)
   have er : (⟨us ++ [v]⟩ : Array Value).eraseIdxIfInBounds us.length = ⟨us ++ []⟩ := kl_erase us [] v
   have sb : Heap.SameBut a s.heap (s.heap.update a (Obj.mapSeq fun xs => xs.eraseIdxIfInBounds us.length)) := Heap.SameBut.update ..
   rw [er, List.append_nil] at U
   exact q _ v f (R.set L ha hi rfl (sameBut_keep sb) (.list U W1) nofun) (.set ha (R.npj ha hi rfl) (sameBut_keep sb))
theorem extend_ok {j : Nat} {b : Addr} {k : List PyData} {Q : Value -> Shared -> Prop} (L : Lo K) (R : Rl K σ ρ s.heap) (ha : nth ρ.l i = some a) (hi : nth σ i = some (.list l)) (hb : nth ρ.l j = some b) (hj : nth σ j = some (.list k)) (fl : fit l = true) (fk : fit k = true)
 (q : ∀ h', Rl K (setNth σ i (.list (l ++ k))) ρ h' -> Ex ρ s.heap ρ h' -> Q .none { s with heap := h' }) : wpAny (model prog w) A (call (.builtin "list.extend") [.ref a, .ref b]) Q E s := by
 obtain ⟨vs, n, g, W⟩ := (R.ob i a _ ha hi).out
 obtain ⟨us, m, g', W'⟩ := (R.ob j b _ hb hj).out
 · have fl := fit_ok fl
   have fk := fit_ok fk
   have z1 : (⟨vs⟩ : Array Value).size <= sizeLine := by rw [size_mk, W.length, sizeLine_eq]; exact le_c ‹_› rfl
   have z2 : (⟨vs⟩ : Array Value).size + (⟨us⟩ : Array Value).size <= sizeLine + 1 := by rw [size_mk, size_mk, W.length, W'.length, sizeLine_eq]; exact le_2 ‹_› ‹_› rfl
   have z3 : ¬(!(⟨vs⟩ : Array Value).isEmpty && Builtin.List.listTooLong ((⟨vs⟩ : Array Value).size + (⟨us⟩ : Array Value).size)) = true := by
    have : Builtin.List.listTooLong ((⟨vs⟩ : Array Value).size + (⟨us⟩ : Array Value).size) = false := by
     unfold Builtin.List.listTooLong
     rw [size_mk, size_mk, W.length, W'.length]
     exact decide_eq_false (by rw [sizeLine_eq]; lia)
    rw [this]; simp
   refine call_meets F.slot_list_extend ⟨_, g, rfl⟩ F.entry_list_extend (F.args_list_extend_2 _ _) (AutoSeq1.list_extend_list_list_0 a ⟨vs⟩ n b ⟨us⟩ m z3 z1 z2) ⟨g, g', ?_⟩
   have U := IsL.update g (fun xs => xs ++ ⟨us⟩)
   have er : (⟨vs⟩ : Array Value) ++ ⟨us⟩ = ⟨vs ++ us⟩ := by simp
   have sb : Heap.SameBut a s.heap (s.heap.update a (Obj.mapSeq fun xs => xs ++ ⟨us⟩)) := Heap.SameBut.update ..
   rw [er] at U
   exact q _ (R.set L ha hi rfl (sameBut_keep sb) (.list U (W.append W')) nofun) (.set ha (R.npj ha hi rfl) (sameBut_keep sb))
theorem append_ok {d : PyData} {u : Value} {Q : Value -> Shared -> Prop} (L : Lo K) (R : Rl K σ ρ s.heap) (ha : nth ρ.l i = some a) (hi : nth σ i = some (.list l)) (D : FR ρ.F d u) (fl : fit l = true)
 (q : ∀ h', Rl K (setNth σ i (.list (l ++ [d]))) ρ h' -> Ex ρ s.heap ρ h' -> Q .none { s with heap := h' }) : wpAny (model prog w) A (call (.builtin "list.append") [.ref a, u]) Q E s := by
 obtain ⟨vs, n, g, W⟩ := (R.ob i a _ ha hi).out
 have fl := fit_ok fl
 refine append_at g (fun h' sb gt => ?_) (by rw [List.size_toArray, W.length, sizeLine_eq]; exact le_c ‹_› rfl)
 refine q h' (R.set L ha hi rfl (sameBut_keep sb) (.list (vs := vs ++ [u]) (n := n + 1) ?_ (W.append (.cons D .nil))) nofun) (.set ha (R.npj ha hi rfl) (sameBut_keep sb))
 rw [gt]; simp
end lists
section args
variable {M : Model} {A : Around} {E : Value -> Shared -> Prop} {s : Shared} {env : Env}
theorem evalArgs_gen {f : Value} {args : List (Bool × Sem Value)} {keywords : List (Option Str × Sem Value)} {Q : Args -> Shared -> Prop} (hp : args.any (·.1) = false) (hall : keywords.all (·.1.isSome) = true)
 (h : wpAny M A (spliced args) (fun vs s₁ => wpAny M A (evalAll (keywords.map (·.2))) (fun ks s2 => Q ⟨vs, (keywords.filterMap (·.1)).zip ks⟩ s2) E s₁) E s) : wpAny M A (evalArgs f true args keywords) Q E s := by
 cases args with
 | nil => exact evalArgs_kw_nil hall fun Γ p hΓ => h Γ p hΓ Γ p hΓ
 | cons x rest =>
  obtain ⟨b, t⟩ := x
  cases b with
  | false => exact evalArgs_kw hall h
  | true => cases hp
theorem plain_star : ∀ {es : List Expr}, plainArgs es = true -> ∀ (pos : Pos) (env : Env), (backTo pos (starEach es env)).any (·.1) = false
 | [], _, _, _ => rfl
 | x :: l, h, pos, env => by
  have hp' : plainArgs l = true /\ starEach (x :: l) env = (false, eval x env) :: starEach l env := by
   cases x <;> first | exact ⟨h, rfl⟩ | exact ff_el h
  rw [hp'.2]
  exact plain_star hp'.1 pos env
theorem plain_all : ∀ {es : List Expr}, plainArgs es = true -> ∀ (pos : Pos) (env : Env), (backTo pos (starEach es env)).all (!·.1) = true
 | [], _, _, _ => rfl
 | x :: l, h, pos, env => by
  have hp' : plainArgs l = true /\ starEach (x :: l) env = (false, eval x env) :: starEach l env := by
   cases x <;> first | exact ⟨h, rfl⟩ | exact ff_el h
  rw [hp'.2]
  exact plain_all hp'.1 pos env
theorem kw_facts : ∀ {kws : List Keyword} {ns : List Str}, kwNames kws = some ns -> ∀ (pos : Pos) (env : Env), (backToKw pos (keywordEach kws env)).all (·.1.isSome) = true /\ (backToKw pos (keywordEach kws env)).any (·.1.isNone) = false /\ (backToKw pos (keywordEach kws env)).filterMap (·.1) = ns
 | [], ns, h, _, _ => by obtain rfl := Option.some.inj h; exact ⟨rfl, rfl, rfl⟩
 | ⟨nm, v, p⟩ :: l, ns, h, pos, env => by
  cases nm with
  | none => exact none_el h
  | some x =>
   obtain ⟨m, hm, e⟩ := bnd_some (show bnd (kwNames l) (fun l => some (x :: l)) = some ns from h)
   obtain rfl := Option.some.inj e
   obtain ⟨a, b, c⟩ := kw_facts hm pos env
   exact ⟨a, b, congrArg (x :: ·) c⟩
end args
theorem callWith_ok (S : Snd K prog w n r) {f : Value} {P : Heap -> Prop} (hk : ∀ h, P h -> ∃ k, (k = Keeper.frame \/ k = Keeper.machine \/ k = Keeper.boundFrame) /\ Looks (model prog w) h (keeperOf f) k)
 (hP : ∀ {σ ρ h}, Rl K σ ρ h -> P h) {c : Cx} {as : List Expr} {kws : List Keyword} {ns : List Str} {σ σ₁ σ2 : St} {vs ks : List AV} {ρ : Rho} {A : Around} {E : Value -> Shared -> Prop} {env : Env} {s : Shared} {pos : Pos} {first : List Value} {Q : Value -> Shared -> Prop}
 (h1 : evsA r c as σ = some (vs, σ₁, true)) (hn : kwNames kws = some ns) (h2 : evsA r c (kwVals kws) σ₁ = some (ks, σ2, true)) (hp : plainArgs as = true) (R : Rl K σ ρ s.heap) (e : EnvR A c ρ env) (hr : Room n A)
 (q : ∀ ρ' s' us uks, Rl K σ2 ρ' s'.heap -> Ex ρ s.heap ρ' s'.heap -> Gs s s' -> VRs ρ' vs us -> KRs ρ' (zipS ns ks) uks -> wpAny (model prog w) A (call f (first ++ us) uks) Q E s') :
 wpAny (model prog w) A (callWith pos f first (backTo pos (starEach as env)) (backToKw pos (keywordEach kws env))) Q E s := by
 obtain ⟨k1, k2, k3⟩ := kw_facts hn pos env
 refine callWith_of (P := P) (by rw [plain_star hp pos env, k2]; rfl) hk (evalArgs_gen (plain_star hp pos env) k1 ?_)
 refine evs_ok S hr h1 hp R e _ _ fun ρ1 s₁ us R1 X1 G1 V1 => ?_
 refine evk_ok S hr (s := s₁) h2 R1 (e.ex X1) _ _ fun ρ2 s2 uks R2 X2 G2 V2 => ?_
 refine ⟨hP R2, ?_⟩
 rw [k3]
 exact q ρ2 s2 us _ R2 (X1.trans X2) (G1.trans G2) (V1.ex X2) (KRs.zip V2)
set_option tactic.hygienic true in
theorem notSuper_ok {o : Expr} (h : notSuper o = true) (x : Str) (env : Env) (t : Sem Value) : attributeBase o x env t = t := by
 unfold attributeBase
 split
 · rename_i hh; exact ff_el h
 · rfl
theorem len_lt {α : Type} {l : List α} {n : Nat} (h : Nat.blt (len l) n = true) : l.length < n := by
 have := Nat.le_of_ble_eq_true h
 rw [len_eq] at this; exact this
noncomputable def RdOk (K : Frag) (prog : Program) (w : World) : Prop :=
 ∀ {σ σ' : St} {ρ : Rho} {i d : Nat} {v : AV} {a : Addr} {t : Tok} {A : Around} {s : Shared}, readA 700 i d σ = some (v, σ', true) -> Rl K σ ρ s.heap -> nth ρ.l i = some a -> FrA A ρ -> (∃ j, j ∈ ρ.fs) -> Room 60 A -> Cd K prog w (fun ρ a u => ∃ x, u = .ret x /\ VR ρ a x) A s ρ (.call (.ref 700) ⟨[.ref a, .int 1 t], []⟩) v σ'
theorem EnvR.fsne {A : Around} {c : Cx} {ρ : Rho} {env : Env} (e : EnvR A c ρ env) : ∃ j, j ∈ ρ.fs := by
 obtain ⟨l, h, k⟩ := e.fa
 obtain ⟨e0, l', h', _⟩ := e.hd
 rw [h'] at h; obtain rfl := Option.some.inj h
 obtain ⟨_, z | ⟨i, _, hi, _⟩⟩ := k e0 (.head _)
 · exact ⟨0, z⟩
 · exact ⟨i, hi⟩
noncomputable def Big (T : Tp) : Prop := (∃ f, atOf T 754 s_read = some (.meth f)) \/ nlook 908 T.fns ≠ none
noncomputable def SrOk (K : Frag) (prog : Program) (w : World) (a : Addr) (x : Str) (b : Bool) : Prop :=
 ∀ {A : Around} {E : Value -> Shared -> Prop} {s : Shared} {t : Tok} {Q : Value -> Shared -> Prop}, K.In s.heap ->
  (match b with
   | false => ∀ tk, Q .none { s with toks := tk }
   | true => ∀ h' tk m, (∀ c o, s.heap.get? c = some o -> h'.get? c = some o) -> s.heap.get? m = none -> Q (.ref m) { s with heap := h', toks := tk }) ->
  wpAny (model prog w) A (call (.builtin "re.Pattern.search") [.ref a, .str x t]) Q E s
structure Hyp (K : Frag) (prog : Program) (w : World) (T : Tp) : Prop where
 rd : (∃ f, atOf T 754 s_read = some (.meth f)) -> RdOk K prog w
 pat : ∀ a l, nlook a T.srch = some l -> ∃ o, K.lookup a = some o /\ o.cls = .type "re.Pattern" /\ o.dict = none
 sr : ∀ a l x b, nlook a T.srch = some l -> look x l = some b -> SrOk K prog w a x b
theorem keep_fn {K : Frag} {f : Addr} {fn : Fn} (F : FnOk K f fn) : keepIn K (.ref f) = true := by
 obtain ⟨oc, od, sl, h⟩ := F.at_
 unfold keepIn; dsimp only; rw [h]
theorem inst_dict {σ : St} {ρ : Rho} {h : Heap} {i d : Nat} {C : Addr} {a : Addr} (R : Rl K σ ρ h) (hi : nth σ i = some (.inst C d)) (ha : nth ρ.l i = some a) {x : Str}
 (hd : (∃ l, nth σ d = some (.dict l) /\ look x l = none) \/ (∃ rest, nth σ d = some (.sdict rest) /\ x = s_read)) :
 ∃ da es n, InstAt h a (instObj C da) C (some (dictOf es n)) /\ getL x es = some none := by
 obtain ⟨da, e, f⟩ := (R.ob i a _ ha hi).out
 rcases hd with ⟨l, h1, h2⟩ | ⟨rest, h1, h2⟩
 · obtain ⟨es, n, g, D, _⟩ := (R.ob d da _ e h1).out
   exact ⟨da, es, n, ⟨f, rfl, rfl, g⟩, D.miss h2⟩
 · obtain ⟨es, n, g, D, _⟩ := (R.ob d da _ e h1).out
   refine ⟨da, es, n, ⟨f, rfl, rfl, g⟩, ?_⟩
   obtain ⟨nl, b, p, t1, t2, t3, t4, t5, t6, k1, k2, k3, D, _⟩ := D
   rw [D, h2]
   kernel_rfl
theorem meth_ok (hT : TOk K T) {σ : St} {ρ : Rho} {x : Str} {f : Addr} {i d : Nat} {C a : Addr} {pl : Sem Bool} {A : Around} {E : Value -> Shared -> Prop} {s : Shared} {Q : Value × List Value -> Shared -> Prop} (R : Rl K σ ρ s.heap) (hi : nth σ i = some (.inst C d)) (ha : nth ρ.l i = some a)
 (hk : atOf T C x = some (.meth f)) (hd : (∃ l, nth σ d = some (.dict l) /\ look x l = none) \/ (∃ rest, nth σ d = some (.sdict rest) /\ x = s_read))
 (q : keepIn K (.ref f) = true -> Q (.ref f, [.ref a]) s) : wpAny (model prog w) A (getMethod (.ref a) x pl) Q E s := by
 obtain ⟨da, es, m, I, hl⟩ := inst_dict R hi ha hd
 obtain ⟨l, h1, h2⟩ := bnd_some (show bnd (nlook C T.ats) (look x) = some (.meth f) from hk)
 obtain ⟨O, hk⟩ := hT.at_ C l h1
 cases hk x _ h2 with
 | meth f1 f2 f3 => exact method_fn R.gd.kin I O.ga O.ge f1 (beq_iff_eq.mp f2) (by show (lookIn x (dictOf es m)).map _ = _; rw [lookIn_dict, hl]; rfl) (q f3)
theorem call_of_cd {A : Around} {E : Value -> Shared -> Prop} {s : Shared} {ρ : Rho} {f : Value} {us : List Value} {uks : List (Str × Value)} {v : AV} {σ' : St} {Q : Value -> Shared -> Prop} (h : Cd K prog w (fun ρ a u => ∃ x, u = .ret x /\ VR ρ a x) A s ρ (.call f ⟨us, uks⟩) v σ')
 (q : ∀ ρ' s' u, Rl K σ' ρ' s'.heap -> Ex ρ s.heap ρ' s'.heap -> Gs s s' -> VR ρ' v u -> Q u s') : wpAny (model prog w) A (call f us uks) Q E s :=
 wpAny_call (h _ fun ρ' s' u R X G V => by obtain ⟨x, rfl, hv⟩ := V; exact q ρ' s' x R X G hv)
inductive Callee (K : Frag) (T : Tp) (ρ : Rho) : MK -> Value -> List Value -> Prop
 | fn {f i a} : nth ρ.l i = some a -> keepIn K (.ref f) = true -> Callee K T ρ (.fn f i) (.ref f) [.ref a]
 | read {f i d a} : nth ρ.l i = some a -> keepIn K (.ref f) = true -> (∃ g, atOf T 754 s_read = some (.meth g)) -> Callee K T ρ (.read f i d) (.ref f) [.ref a]
 | append {i a} : nth ρ.l i = some a -> Callee K T ρ (.append i) (.builtin "list.append") [.ref a]
 | extend {i a} : nth ρ.l i = some a -> Callee K T ρ (.extend i) (.builtin "list.extend") [.ref a]
 | pop {i a} : nth ρ.l i = some a -> Callee K T ρ (.pop i) (.builtin "list.pop") [.ref a]
 | remove {i a} : nth ρ.l i = some a -> Callee K T ρ (.remove i) (.builtin "list.remove") [.ref a]
 | lower {x t} : Callee K T ρ (.lower x) (.builtin "str.lower") [.str x t]
 | join {x t} : Callee K T ρ (.join x) (.builtin "str.join") [.str x t]
 | index {x t} : Callee K T ρ (.index x) (.builtin "str.index") [.str x t]
 | search {a} : Callee K T ρ (.search a) (.builtin "re.Pattern.search") [.ref a]
theorem Callee.ex {ρ ρ' : Rho} {h h' : Heap} {m : MK} {f : Value} {l : List Value} (x : Ex ρ h ρ' h') (c : Callee K T ρ m f l) : Callee K T ρ' m f l := by
 induction c with
 | fn a b => exact .fn (nth_ex x a) b
 | read a b c => exact .read (nth_ex x a) b c
 | append a => exact .append (nth_ex x a)
 | extend a => exact .extend (nth_ex x a)
 | pop a => exact .pop (nth_ex x a)
 | remove a => exact .remove (nth_ex x a)
 | lower => exact .lower
 | join => exact .join
 | index => exact .index
 | search => exact .search
noncomputable def KeepP (K : Frag) : Value -> Heap -> Prop
 | .ref _, h => K.In h
 | _, _ => True
theorem Callee.keeper {ρ : Rho} {m : MK} {f : Value} {l : List Value} (c : Callee K T ρ m f l) : ∀ h, KeepP K f h -> ∃ k, (k = Keeper.frame \/ k = Keeper.machine \/ k = Keeper.boundFrame) /\ Looks (model prog w) h (keeperOf f) k := by
 induction c with
 | fn _ b => exact keeps_K b
 | read _ b => exact keeps_K b
 | _ => exact fun ι ι => ⟨.machine, .inr (.inl rfl), .now⟩
theorem keepP_of {σ : St} {ρ : Rho} {h : Heap} (R : Rl K σ ρ h) (f : Value) : KeepP K f h := by
 cases f <;> first | exact R.gd.kin | trivial
set_option maxRecDepth 100000 in
theorem plainAttrs_pat : PlainAttrs "re.Pattern" :=
 ⟨⟨"object.__getattribute__", by rw [typeLookup_type, builtinLookup_eq_fast]; kernel_rfl, by decide +kernel⟩, by rw [typeLookup_type, builtinLookup_eq_fast]; kernel_rfl⟩
set_option maxRecDepth 100000 in
theorem slot_pat_search : Slot "re.Pattern" "search" "re.Pattern.search" :=
 .of (owner := "re.Pattern") (n := "search") (by rw [typeLookup_type, builtinLookup_eq_fast]; kernel_rfl) (by decide +kernel) (by decide +kernel) (by decide +kernel)
  (by first | exact .inl (by decide +kernel) | exact .inr (by decide +kernel)) (by rw [isSubtype_type]; kernel_rfl)
set_option maxRecDepth 100000 in
theorem type_pat_search : typeOf (.builtin "re.Pattern.search") = pure (.type "method_descriptor") := by show builtinType _ = _; rw [builtinType_eq_fast]; kernel_rfl
noncomputable def FdQ (K : Frag) (T : Tp) (ρ : Rho) (s : Shared) (Q : Value × List Value -> Shared -> Prop) (m : MK) : Prop := ∀ f l, Callee K T ρ m f l -> Q (f, l) s
theorem findI_ok (hT : TOk K T) {σ : St} {ρ : Rho} {x : Str} {m : MK} {i d C f : Nat} {ad : Addr} {o : Option AO} {pl : Sem Bool} {A : Around} {E : Value -> Shared -> Prop} {s : Shared} {Q : Value × List Value -> Shared -> Prop} (R : Rl K σ ρ s.heap) (hi : nth σ i = some (.inst C d)) (hn : nth ρ.l i = some ad) (hk : atOf T C x = some (.meth f)) (hd : nth σ d = o)
 (h : findI σ i d C x f o = some m) (q : FdQ K T ρ s Q m) : wpAny (model prog w) A (getMethod (.ref ad) x pl) Q E s := by
 cases o with
 | none => exact none_el h
 | some o => cases o with
  | sdict rest => exact gd_el h fun g h => and_el g fun hx hC => meth_ok hT R hi hn hk (.inr ⟨rest, hd, seq_iff.mp hx⟩) fun hkp => some_q h q _ _ (.read hn hkp ⟨f, by rw [<- Nat.eq_of_beq_eq_true hC, <- seq_iff.mp hx]; exact hk⟩)
  | dict l => exact gd_el h fun hx h => meth_ok hT R hi hn hk (.inl ⟨l, hd, isNone_inv hx⟩) fun hkp => some_q h q _ _ (.fn hn hkp)
  | _ => exact none_el h
set_option maxRecDepth 10000 in
theorem findL_ok {σ : St} {ρ : Rho} {x : Str} {m : MK} {i : Nat} {ad : Addr} {l : List PyData} {pl : Sem Bool} {A : Around} {E : Value -> Shared -> Prop} {s : Shared} {Q : Value × List Value -> Shared -> Prop} (R : Rl K σ ρ s.heap) (hi : nth σ i = some (.list l)) (hn : nth ρ.l i = some ad)
 (h : findL i x = some m) (q : FdQ K T ρ s Q m) : wpAny (model prog w) A (getMethod (.ref ad) x pl) Q E s := by
 obtain ⟨us0, m, g, V⟩ := (R.ob i ad _ hn hi).out
 have T1 : s.TypeIs (.ref ad) "list" := ⟨_, g, rfl⟩
 have D1 : ∀ b, Value.ref ad = .ref b -> ∃ o, s.heap.get? b = some o /\ o.dict = none := fun b e => Value.ref.inj e ▸ ⟨_, g, rfl⟩
 exact pk2_el h (fun e h => by rw [show x = Zs "append" from seq_iff.mp e]; exact getMethod_builtin T1 PySem.F.plainAttrs_list F.slot_list_append F.type_list_append D1 (some_q h q _ _ (.append hn)))
  fun ι h => pk2_el h (fun e h => by rw [show x = Zs "extend" from seq_iff.mp e]; exact getMethod_builtin T1 PySem.F.plainAttrs_list F.slot_list_extend F.type_list_extend D1 (some_q h q _ _ (.extend hn)))
  fun ι h => pk2_el h (fun e h => by rw [show x = Zs "pop" from seq_iff.mp e]; exact getMethod_builtin T1 PySem.F.plainAttrs_list F.slot_list_pop F.type_list_pop D1 (some_q h q _ _ (.pop hn)))
  fun ι h => gd_el h fun e h => by rw [show x = Zs "remove" from seq_iff.mp e]; exact getMethod_builtin T1 PySem.F.plainAttrs_list F.slot_list_remove F.type_list_remove D1 (some_q h q _ _ (.remove hn))
set_option maxRecDepth 10000 in
theorem findS_ok {ρ : Rho} {x z : Str} {t : Tok} {m : MK} {pl : Sem Bool} {A : Around} {E : Value -> Shared -> Prop} {s : Shared} {Q : Value × List Value -> Shared -> Prop} (h : findS z x = some m) (q : FdQ K T ρ s Q m) : wpAny (model prog w) A (getMethod (.str z t) x pl) Q E s :=
 pk2_el h (fun e h => by rw [show x = Zs "lower" from seq_iff.mp e]; have qq := some_q h q _ _ (Callee.lower (x := z) (t := t)); exact GM.lower qq)
  fun ι h => pk2_el h (fun e h => by rw [show x = Zs "join" from seq_iff.mp e]; have qq := some_q h q _ _ (Callee.join (x := z) (t := t)); exact GM.join qq)
  fun ι h => gd_el h fun e h => by rw [show x = Zs "index" from seq_iff.mp e]; have qq := some_q h q _ _ (Callee.index (x := z) (t := t)); exact GM.index qq
set_option maxRecDepth 10000 in
theorem findM_ok (hT : TOk K T) (H : Hyp K prog w T) {σ : St} {ρ : Rho} {a : AV} {u : Value} {x : Str} {m : MK} {pl : Sem Bool} {A : Around} {E : Value -> Shared -> Prop} {s : Shared} {Q : Value × List Value -> Shared -> Prop} (h : findM T a x σ = some m) (R : Rl K σ ρ s.heap) (V : VR ρ a u)
 (q : FdQ K T ρ s Q m) : wpAny (model prog w) A (getMethod u x pl) Q E s := by
 cases a with
 | ref i =>
  refine V.rf fun ad hn => ?_
  have h : findO T σ i x (nth σ i) = some m := h
  cases hi : nth σ i with
  | none => rw [hi] at h; exact none_el h
  | some o =>
   rw [hi] at h
   cases o with
   | inst C d => exact bnd_el h fun f h1 h => bnd_el h1 fun k h1 h2 => findI_ok hT R hi hn (by rw [h1, mtA_inv h2]) rfl h q
   | list l => exact findL_ok R hi hn h q
   | _ => exact none_el h
 | str z => exact V.st fun t => findS_ok h q
 | raw v =>
  refine V.rw ?_
  cases v with
  | ref ad =>
   refine bnd_el h fun l e1 h => gd_el h fun e2 h => ?_
   rw [show x = Zs "search" from seq_iff.mp e2]
   obtain ⟨o, h1, h2, h3⟩ := H.pat ad l e1
   have g := R.gd.kin _ _ h1
   exact getMethod_builtin ⟨_, g, h2⟩ plainAttrs_pat slot_pat_search type_pat_search (fun b e => Value.ref.inj e ▸ ⟨_, g, h3⟩) (some_q h q _ _ .search)
  | _ => exact none_el h
 | _ => exact none_el h
theorem ascii_ok {l : List Nat} : ascii l = true -> ∀ c ∈ l, c < 128 := by
 induction l with
 | nil => exact fun ι ι h => nomatch h
 | cons a l ih =>
  intro h
  unfold ascii at h
  cases q : Nat.blt a 128 with
  | false => rw [q] at h; exact ff_el h
  | true => rw [q] at h; exact List.forall_mem_cons.mpr ⟨Nat.le_of_ble_eq_true q, ih h⟩
theorem lowC_eq (c : Nat) : lowC c = lo1 c := by
 unfold lowC lo1
 cases p : Nat.ble 65 c with
 | false => rw [if_neg fun h => by rw [Nat.ble_eq_true_of_le h.1] at p; cases p]
 | true =>
  cases q : Nat.ble c 90 with
  | false => rw [if_neg fun h => by rw [Nat.ble_eq_true_of_le h.2] at q; cases q]
  | true => rw [if_pos ⟨Nat.le_of_ble_eq_true p, Nat.le_of_ble_eq_true q⟩]
theorem lowL_eq : ∀ l : List Nat, lowL l = l.map lo1
 | [] => rfl
 | c :: l => by rw [lowL, lowL_eq l, lowC_eq]; rfl
theorem lower_eq {x : Str} (h : ascii x.cps.toList = true) : Txt.lower x = ⟨⟨lowL x.cps.toList⟩⟩ := by
 rw [lower_ascii (ascii_ok h), lowL_eq]
 congr 1
 apply Array.toList_inj.mp
 simp
theorem idx3_ok {x : Str} {n : Nat} {C : Str -> Nat -> Prop} (h : idx3 x = some n) (a : C (Zs "a") 0) (b : C (Zs "b") 1) (c : C (Zs "c") 2) : C x n :=
 pk2_el h (fun e h => by rw [seq_iff.mp e]; exact some_el (q := fun n => C _ n) h a) fun ι h => pk2_el h (fun e h => by rw [seq_iff.mp e]; exact some_el (q := fun n => C _ n) h b) fun ι h => gd_el h fun e h => by rw [seq_iff.mp e]; exact some_el (q := fun n => C _ n) h c
theorem val_q {σ σ' : St} {ρ : Rho} {a v : AV} {s : Shared} {Q : Value -> Shared -> Prop} {u : Value} {tk : Nat} (h : ok a σ = some (v, σ', true)) (R : Rl K σ ρ s.heap) (q : Kt K VR s ρ Q v σ') (V : VR ρ a u) : Q u { s with toks := tk } :=
 ok_q h q ρ _ u R (.refl ..) (.ht _ _ _) V
theorem none_q {σ₁ σ' : St} {ρ ρ1 : Rho} {v : AV} {s : Shared} {Q : Value -> Shared -> Prop} {h' : Heap} (h : ok .none σ₁ = some (v, σ', true)) (X1 : Ex ρ s.heap ρ1 s.heap) (R2 : Rl K σ₁ ρ1 h') (X2 : Ex ρ1 s.heap ρ1 h') (q : Kt K VR s ρ Q v σ') : Q .none { s with heap := h' } :=
 ok_q h q ρ1 _ _ R2 (X1.trans X2) (.hh _ _) rfl
set_option maxRecDepth 10000 in
theorem index_ok {x y : Str} {t ty : Tok} {n : Nat} {A : Around} {E : Value -> Shared -> Prop} {s : Shared} {Q : Value -> Shared -> Prop} (hx : seq x s_abc = true) (h : idx3 y = some n) (q : ∀ t tk, Q (.int (.ofNat n) t) { s with toks := tk }) : wpAny (model prog w) A (call (.builtin "str.index") [.str x t, .str y ty]) Q E s := by
 have hx := seq_iff.mp hx
 subst hx
 exact idx3_ok (C := fun y n => (∀ t tk, Q (.int (.ofNat n) t) { s with toks := tk }) -> wpAny (model prog w) A (call (.builtin "str.index") [.str s_abc t, .str y ty]) Q E s) h
  (fun q => SC.index (rest := []) (by decide +kernel) (q _ _)) (fun q => SC.index (rest := []) (by decide +kernel) (q _ _)) (fun q => SC.index (rest := []) (by decide +kernel) (q _ _)) q
theorem lower_ok {x : Str} {t : Tok} {A : Around} {E : Value -> Shared -> Prop} {s : Shared} {Q : Value -> Shared -> Prop} (ha : ascii x.cps.toList = true) (fl : small x = true) (q : ∀ t tk, Q (.str ⟨⟨lowL x.cps.toList⟩⟩ t) { s with toks := tk }) : wpAny (model prog w) A (call (.builtin "str.lower") [.str x t]) Q E s := by
 have e := lower_eq ha
 refine SC.lower ?_ ?_
 · rw [e, lowL_eq]
   refine decide_eq_false ?_
   have := small_ok fl
   show ¬ ((⟨x.cps.toList.map lo1⟩ : Array Nat).size > sizeLine)
   have : (⟨x.cps.toList.map lo1⟩ : Array Nat).size = x.length := by simp [Str.length]
   rw [this, sizeLine_eq]; lia
 · rw [e]; exact q _ _
theorem join1_ok {x y : Str} {t ty : Tok} {b : Addr} {m : Nat} {A : Around} {E : Value -> Shared -> Prop} {s : Shared} {Q : Value -> Shared -> Prop} (g : s.heap.get? b = some (listOf ⟨[.str y ty]⟩ m)) (f1 : small x = true) (f2 : small y = true) (q : ∀ t tk, Q (.str y t) { s with toks := tk }) : wpAny (model prog w) A (call (.builtin "str.join") [.str x t, .ref b]) Q E s := by
 have := small_ok f1
 have := small_ok f2
 refine SC.join (l := [(y, ty)]) (texts := [y]) ⟨_, g, rfl, m, rfl⟩ rfl ?_ fun t' k => ?_
 · show (!decide (0 + y.length + x.length > sizeLine)) = true
   rw [decide_eq_false (by rw [sizeLine_eq]; lia)]; rfl
 · exact q _ _
theorem apply_ok (L : Lo K) (S : Snd K prog w n r) (hn : 10 <= n) (hB : Big T -> 60 <= n) (H : Hyp K prog w T) {σ σ' : St} {ρ : Rho} {m : MK} {f : Value} {first us : List Value} {vs : List AV} {ks : List (Str × AV)} {uks : List (Str × Value)} {v : AV} {A : Around} {E : Value -> Shared -> Prop} {s : Shared} {Q : Value -> Shared -> Prop}
 (h : applyM T r m vs ks σ = some (v, σ', true)) (C : Callee K T ρ m f first) (R : Rl K σ ρ s.heap) (V : VRs ρ vs us) (W : KRs ρ ks uks) (fa : FrA A ρ) (hfs : ∃ j, j ∈ ρ.fs) (hr : Room n A)
 (q : Kt K VR s ρ Q v σ') : wpAny (model prog w) A (call f (first ++ us) uks) Q E s := by
 induction C with
 | @fn f i a ha hk => exact call_of_cd (S.call h R (.cons ⟨a, ha, rfl⟩ V) W fa hr) q
 | @read f i d a ha hk hg =>
  exact arg1_el h V W fun w u v1 h => int_vr h v1 fun x t h => gd_el h fun e h3 => gd_el h3 fun ef h2 => by
   have e : x = .ofNat 1 := eq_of_beq ((ieq_beq _ _).trans e)
   have ef := Nat.eq_of_beq_eq_true ef
   subst e
   subst ef
   exact call_of_cd (H.rd hg h3 R ha fa hfs (hr.le (hB (.inl hg)))) q
 | @append i a ha =>
  exact arg1_el h V W fun w u v1 h => bnd_el h fun p h1 h => bnd_el h fun l hl h => chk_el h fun fl h => by
   obtain ⟨ρ1, R1, X1, f₁⟩ := frz_ok R h1 v1
   exact append_ok L R1 (nth_ex X1 ha) (lsO_inv hl) f₁ fl fun h' R2 X2 => none_q h X1 R2 X2 q
 | @extend i a ha =>
  exact arg1_el h V W fun w u v1 h => ref_vr h v1 fun j b hb h => bnd_el h fun l h1 h => bnd_el h fun k h2 h => gd_el h fun ι h => chk_el h fun fl h => chk_el h fun fk h =>
   extend_ok L R ha (lsO_inv h1) hb (lsO_inv h2) fl fk fun h' R2 X2 => none_q h (.refl ..) R2 X2 q
 | @pop i a ha =>
  exact arg0_el h V W fun h => bnd_el h fun l h1 h => bnd_el h fun p h2 h => chk_el h fun fl h =>
   pop_ok L R ha (lsO_inv h1) h2 fl fun h' u f R2 X2 => ok_q h q ρ _ _ R2 X2 (.hh _ _) (ofP_ok f)
 | @remove i a ha =>
  exact arg1_el h V W fun w u v1 h => tup_vr h v1 fun d D h => bnd_el h fun l h1 h => bnd_el h fun k h2 h => chk_el h fun fl h => chk_el h fun s1 h => chk_el h fun s2 h =>
   remove_some L R ha (lsO_inv h1) h2 D fl s1 s2 (by have := hr.2.1; lia) fun h' R2 X2 => none_q h (.refl ..) R2 X2 q
 | @lower x t =>
  exact arg0_el h V W fun h => gd_el h fun ha h => chk_el h fun fl h => lower_ok ha fl fun t tk => val_q h R q ⟨t, rfl⟩
 | @join x t =>
  exact arg1_el h V W fun w u v1 h => ref_vr h v1 fun i b hb h => bnd_el h fun l h1 h => bnd_el h fun d h2 h => bnd_el h fun y h3 h => chk_el h fun f1 h => chk_el h fun f2 h => by
   obtain ⟨vs, m, g, V⟩ := (R.ob i b _ hb (lsO_inv h1)).out
   rw [oneV_inv h2, strP_inv h3] at V
   refine V.cons_el (C := fun vs => s.heap.get? b = some (listOf ⟨vs⟩ m) -> _) (fun u r f V g => ?_) g
   obtain ⟨ty, e⟩ := f.out
   rw [e, show r = [] from V.out] at g
   exact join1_ok g f1 f2 fun t tk => val_q h R q ⟨t, rfl⟩
 | @index x t =>
  exact arg1_el h V W fun w u v1 h => str_vr h v1 fun y ty h => gd_el h fun hx h => bnd_el h fun k h1 h => index_ok hx h1 fun t tk => val_q h R q ⟨t, rfl⟩
 | @search a =>
  exact arg1_el h V W fun w u v1 h => str_vr h v1 fun y ty h => bnd_el h fun l h1 h => bnd_el h fun b h2 h => H.sr a l y b h1 h2 R.gd.kin (by
   cases b with
   | false => exact fun tk => val_q (pk_f h) R q rfl
   | true => exact fun h' tk m hk hm => ok_q (pk_t h) q _ _ _ (R.push L hk hm .junk) (.push hk hm) (.ht _ _ _) ⟨m, by rw [len_eq, <- R.len]; exact nth_last _ _, rfl⟩)
theorem callAttr_ok (hT : TOk K T) (L : Lo K) (S : Snd K prog w n r) (hn10 : 10 <= n) (hB : Big T -> 60 <= n) (H : Hyp K prog w T) {c : Cx} {o : Expr} {x : Str} {ap p : Pos} {as : List Expr} {kws : List Keyword} {σ σ₁ σ2 σ3 σ' : St} {a v : AV} {m : MK} {ns : List Str} {vs ks : List AV} {ρ : Rho} {A : Around} {env : Env} {s : Shared}
 (g1 : notSuper o = true) (g2 : Nat.beq ap.endLine p.line = true) (g3 : plainArgs as = true) (g4 : Nat.blt (len as) 10 = true) (g5 : Nat.blt (len kws) 10 = true)
 (h1 : r.ev c o σ = some (a, σ₁, true)) (h2 : findM T a x σ₁ = some m) (h3 : evsA r c as σ₁ = some (vs, σ2, true)) (h4 : kwNames kws = some ns) (h5 : evsA r c (kwVals kws) σ2 = some (ks, σ3, true)) (h6 : applyM T r m vs (zipS ns ks) σ3 = some (v, σ', true))
 (R : Rl K σ ρ s.heap) (e : EnvR A c ρ env) (hr : Room (n + 1) A) : Wp K prog w VR A s ρ (eval (.Call (.Attribute o x ap) as kws p) env) v σ' := by
 intro Q E q
 obtain ⟨k1, k2, k3⟩ := kw_facts h4 p env
 have form : methodCallForm (as.length + kws.length) (backTo p (starEach as env)) (backToKw p (keywordEach kws env)) = true := by
  unfold methodCallForm
  rw [plain_all g3 p env, k1]
  have a := len_lt g4
  have b := len_lt g5
  have : (as.length + kws.length + if (backToKw p (keywordEach kws env)).isEmpty = true then 0 else 1) < 30 := by split <;> lia
  rw [decide_eq_true this]; rfl
 have line : (ap.endLine == p.line) = true := by rw [Nat.eq_of_beq_eq_true g2]; simp
 have rm := hr.le (Nat.le_succ n)
 refine methodCall_KW (pl := do return (<- importBound o env).getD true) ?_ (by
  rw [arm_eval_Call, notSuper_ok g1]
  unfold methodCall calleeOf methodCallPos
  simp only [form, line, if_true, Bool.not_true, Bool.false_or, pure_bind])
 refine S.ev h1 R e rm _ _ fun ρ1 s₁ u R1 X1 G1 V1 => ?_
 refine findM_ok (s := s₁) hT H h2 R1 V1 fun f l C => ?_
 refine callWith_ok (s := s₁) S (P := KeepP K f) C.keeper (fun R => keepP_of R f) h3 h4 h5 g3 R1 (e.ex X1) rm fun ρ2 s2 us uks R2 X2 G2 V2 W2 => ?_
 exact apply_ok (s := s2) L S hn10 hB H h6 (C.ex X2) R2 V2 W2 (e.fa.ex (X1.trans X2)) (by rw [(X1.trans X2).es]; exact e.fsne) rm fun ρ3 s3 u R3 X3 G3 V3 => q ρ3 s3 u R3 ((X1.trans X2).trans X3) ((G1.trans G2).trans G3) V3
theorem nth_take {α : Type} : ∀ {l : List α} {m i : Nat}, i < m -> nth (l.take m) i = nth l i
 | [], m, i, h => by simp
 | a :: l, 0, i, h => by cases h
 | a :: l, m + 1, 0, h => rfl
 | a :: l, m + 1, i + 1, h => nth_take (l := l) (Nat.lt_of_succ_lt_succ h)
theorem nth_cutS {m : Nat} {σ : St} : ∀ {k i : Nat} {o : AO}, nth (cutS m k σ) i = some o -> ∃ p, i < k /\ nth σ i = some p /\ o = cutO m p := by
 induction σ with
 | nil => exact fun {k i o} h => by cases k <;> exact none_el h
 | cons a σ ih =>
  intro k i o h
  cases k with
  | zero => exact none_el h
  | succ k =>
   cases i with
   | zero => exact ⟨a, Nat.succ_pos _, rfl, (Option.some.inj h).symm⟩
   | succ i => exact let ⟨p, h1, h2⟩ := ih (k := k) (i := i) h; ⟨p, Nat.succ_lt_succ h1, h2⟩
theorem cutS_length {m : Nat} {σ : St} : ∀ {k : Nat}, (cutS m k σ).length = min k σ.length := by
 induction σ with
 | nil => exact fun {k} => by cases k <;> rfl
 | cons a σ ih =>
  intro k
  cases k with
  | zero => exact (Nat.zero_min _).symm
  | succ k => exact (congrArg Nat.succ ih).trans (Nat.succ_min_succ _ _).symm
theorem VR.cut {ρ : Rho} {m : Nat} {v : AV} {u : Value} (h : VR ρ v u) : VR ⟨ρ.l.take m, ρ.F, ρ.X, ρ.fs⟩ (cutV m v) u := by
 cases v with
 | ref i =>
  obtain ⟨a, e, f⟩ := h
  show VR _ (match Nat.blt i m with | true => .ref i | false => .unk) u
  cases q : Nat.blt i m with
  | true => exact ⟨a, (nth_take (Nat.le_of_ble_eq_true q)).trans e, f⟩
  | false => trivial
 | _ => exact h
theorem VRs.cut {ρ : Rho} {m : Nat} {l : List AV} {us : List Value} (h : VRs ρ l us) : VRs ⟨ρ.l.take m, ρ.F, ρ.X, ρ.fs⟩ (cutVs m l) us := by
 induction h with
 | nil => exact .nil
 | cons a _ ih => exact .cons a.cut ih
theorem DR.cut {ρ : Rho} {m : Nat} {l : List (Str × AV)} {us : List DictEntry} (h : DR ρ l us) : DR ⟨ρ.l.take m, ρ.F, ρ.X, ρ.fs⟩ (cutN m l) us := by
 induction h with
 | nil => exact .nil
 | cons k a _ ih => exact .cons k a.cut ih
theorem look_cutN {m : Nat} {x : Str} : ∀ {l : List (Str × AV)} {v : AV}, look x (cutN m l) = some v -> ∃ u, look x l = some u /\ v = cutV m u
 | [], _, h => by exact none_el h
 | p :: l, v, h => by
  unfold cutN look at h
  unfold look
  cases q : seq x p.1 with
  | true =>
   dsimp only at h
   rw [q] at h
   obtain rfl := Option.some.inj h
   exact ⟨_, rfl, rfl⟩
  | false =>
   dsimp only at h
   rw [q] at h
   exact look_cutN h
theorem unk_cut {ρ : Rho} {m : Nat} {v : AV} {P : Value -> Prop} (h : v = .unk \/ ∃ x, P x /\ VR ρ v x) : cutV m v = .unk \/ ∃ x, P x /\ VR ⟨ρ.l.take m, ρ.F, ρ.X, ρ.fs⟩ (cutV m v) x := h.elim (fun z => .inl (by rw [z]; rfl)) fun ⟨x, p, q⟩ => .inr ⟨x, p, q.cut⟩
theorem OR.cut {ρ : Rho} {m : Nat} {h : Heap} {a : Addr} {o : AO} (x : OR ρ h a o) : OR ⟨ρ.l.take m, ρ.F, ρ.X, ρ.fs⟩ h a (cutO m o) := by
 induction x with
 | junk => exact .junk
 | ns n f =>
  refine .ns n fun x v hx => ?_
  obtain ⟨u, h1, e⟩ := look_cutN hx
  exact e ▸ unk_cut (f x u h1)
 | @inst C d da n q =>
  show OR _ h a (match Nat.blt d m with | true => .inst C d | false => .junk)
  cases e : Nat.blt d m with
  | true => exact .inst ((nth_take (Nat.le_of_ble_eq_true e)).trans n) q
  | false => exact .junk
 | dict q d y => exact .dict q d.cut y
 | list q d => exact .list q d
 | frl q d => exact .frl q d
 | tuple q d => exact .tuple q d.cut
 | deq q a b c => exact .deq q a b c
 | sdict q d y => exact .sdict q d y
 | cell c d => exact .cell c (unk_cut d)
theorem shut_cut {m : Nat} {o : AO} (h : shut (cutO m o) = false) : shut o = false := by
 cases o <;> first | rfl | exact h
theorem cutS_nth {m : Nat} {σ : St} : ∀ {k i : Nat} {p : AO}, nth σ i = some p -> i < k -> nth (cutS m k σ) i = some (cutO m p) := by
 induction σ with
 | nil => exact fun h => none_el h
 | cons a σ ih =>
  intro k i p h l
  cases k with
  | zero => exact absurd l (Nat.not_lt_zero _)
  | succ k =>
   cases i with
   | zero => exact congrArg (fun p => some (cutO m p)) (Option.some.inj h)
   | succ i => exact ih (k := k) (i := i) h (Nat.lt_of_succ_lt_succ l)
theorem Rl.cut {σ : St} {ρ : Rho} {h : Heap} {m : Nat} (R : Rl K σ ρ h) (hm : ∀ i ∈ ρ.fs, i < m) : Rl K (cutS m m σ) ⟨ρ.l.take m, ρ.F, ρ.X, ρ.fs⟩ h := by
 have cs : ∀ {i a o}, nth (ρ.l.take m) i = some a -> nth (cutS m m σ) i = some o -> ∃ p, nth ρ.l i = some a /\ nth σ i = some p /\ o = cutO m p := fun e f => by
  obtain ⟨p, h1, h2, h3⟩ := nth_cutS f
  exact ⟨p, (nth_take h1).symm.trans e, h2, h3⟩
 refine ⟨R.gd, ?_, fun i j a o p e f g t u v => ?_, fun i a o e f s => ?_, fun i a o e f => ?_, R.fin, R.xin, fun i a o e f s => ?_, R.fx, R.jt, fun i mi => let ⟨l, e⟩ := R.fr i mi; ⟨cutN m l, cutS_nth e (hm i mi)⟩, R.pj⟩
 · show (ρ.l.take m).length = _
   rw [List.length_take, cutS_length, R.len]
 · obtain ⟨o', e', g', rfl⟩ := cs e g
   obtain ⟨p', f', t', rfl⟩ := cs f t
   exact R.nd _ _ _ _ _ e' f' g' t' (shut_cut u) (shut_cut v)
 · obtain ⟨o', e', f', rfl⟩ := cs e f
   exact R.lo _ _ _ e' f' (shut_cut s)
 · obtain ⟨o', e', f', rfl⟩ := cs e f
   exact (R.ob _ _ _ e' f').cut
 · obtain ⟨o', e', f', rfl⟩ := cs e f
   exact R.fz _ _ _ e' f' (shut_cut s)
theorem blurN_ok {ρ : Rho} {m : Str -> Option Value} : ∀ {xs : List Str} {l : List (Str × AV)}, (∀ x v, look x l = some v -> v = .unk \/ ∃ u, m x = some u /\ VR ρ v u) -> ∀ x v, look x (blurN xs l) = some v -> v = .unk \/ ∃ u, m x = some u /\ VR ρ v u
 | [], l, h => h
 | y :: xs, l, h => by
  refine blurN_ok (xs := xs) (l := put y .unk l) fun x v hx => ?_
  rw [look_put] at hx
  by_cases e : x = y
  · rw [if_pos (seq_iff.mpr e)] at hx; obtain rfl := Option.some.inj hx; exact .inl rfl
  · rw [if_neg (by rw [seq_false.mpr e]; decide)] at hx; exact h x v hx
theorem Rl.sayNs {σ : St} {ρ : Rho} {h : Heap} {i : Nat} {l : List (Str × AV)} (R : Rl K σ ρ h) (hl : nsOf σ i = some l) (xs : List Str) : Rl K (setNth σ i (.ns (blurN xs l))) ρ h := by
 have hl := nsOf_eq hl
 refine R.say (fun a o ha ho => ?_) fun ι => ⟨_, rfl⟩
 obtain rfl := Option.some.inj (hl.symm.trans ho)
 obtain ⟨_, n, f⟩ := (R.ob _ _ _ ha hl).out
 exact ⟨.ns n (blurN_ok f), fun ι => rfl⟩
theorem Rl.blur {σ : St} {ρ : Rho} {h : Heap} (R : Rl K σ ρ h) (c : Cx) (xs : List Str) : Rl K (Mine.blur c xs σ) ρ h := by
 unfold Mine.blur
 cases hl : nsOf σ c.fid with
 | some l => exact R.sayNs hl xs
 | none => exact R
noncomputable def BlQ (K : Frag) (ρ : Rho) (h : Heap) (σ σ' : St) : Prop := σ'.length = σ.length /\ (Rl K σ ρ h -> Rl K σ' ρ h)
theorem blurC_ok {σ : St} {ρ : Rho} {h : Heap} (c : Cx) (x : Str) : BlQ K ρ h σ (Mine.blurC c x σ) := by
 unfold Mine.blurC
 cases e : storeL c x .unk σ with
 | none => exact ⟨rfl, id⟩
 | some σ₁ =>
  refine bnd_el e fun k hk e => ?_
  cases k with
  | «local» => exact bnd_el e fun l h1 e => some_el e ⟨setNth_length .., fun R => R.sayNs h1 [x]⟩
  | cell =>
   exact bnd_el e fun i h1 e => bnd_el e fun v hv e => some_el e ⟨setNth_length .., fun R => by
    have hv := ceO_inv hv
    refine R.say (fun a o ha ho => ?_) fun m => absurd m (R.nofs hv nofun)
    obtain rfl := Option.some.inj (hv.symm.trans ho)
    obtain ⟨_, ic, _⟩ := (R.ob _ _ _ ha hv).out
    exact ⟨.cell ic (.inl rfl), fun ι => rfl⟩⟩
  | _ => exact none_el e
theorem Rl.blurC {σ : St} {ρ : Rho} {h : Heap} (R : Rl K σ ρ h) (c : Cx) (x : Str) : Rl K (Mine.blurC c x σ) ρ h := (blurC_ok c x).2 R
structure Out (K : Frag) (σ : St) (ρ : Rho) (I : Addr) : Prop where
 f : ρ.F I = none
 x : ρ.X I = none
 l : ¬ Low K I
 s : ∀ i o, nth ρ.l i = some I -> nth σ i = some o -> shut o = true
theorem Rl.out {σ : St} {ρ : Rho} {h : Heap} {I : Addr} (R : Rl K σ ρ h) (z : h.get? I = none) : Out K σ ρ I := by
 refine ⟨fresh_of R.fin z, fresh_of R.xin z, fun l => ?_, fun i o e f => ?_⟩
 · obtain ⟨o, x⟩ := R.gd.there R.jt l
   rw [z] at x; cases x
 · cases q : shut o with
   | true => rfl
   | false =>
    obtain ⟨p, x⟩ := (R.ob i I o e f).there q
    rw [z] at x; cases x
theorem Rl.outStep {σ : St} {ρ : Rho} {h h' : Heap} {I : Addr} (L : Lo K) (R : Rl K σ ρ h) (O : Out K σ ρ I) (k : ∀ b o, b ≠ I -> h.get? b = some o -> h'.get? b = some o) : Rl K σ ρ h' := by
 refine ⟨R.gd.keeps L fun b o l ι e => k b o (fun z => O.l (z ▸ l)) e, R.len, R.nd, R.lo, fun i a o e f => ?_, fun a o e => k _ _ (fun z => by rw [z, O.f] at e; exact none_el e) (R.fin a o e), fun a o e => k _ _ (fun z => by rw [z, O.x] at e; exact none_el e) (R.xin a o e), R.fz, R.fx, R.jt.move (.refl _) fun o e => k _ _ (fun z => O.l (z ▸ .inr (.inr (.inr (.inr rfl))))) e, R.fr, R.pj⟩
 cases q : shut o with
 | true => exact (R.ob i a o e f).shutUp q (.refl _)
 | false =>
  refine (R.ob i a o e f).move (.refl _) fun p g => k _ _ (fun z => ?_) g
  subst z
  rw [O.s i o e f] at q; cases q
theorem Rl.lockOut {σ : St} {ρ : Rho} {h : Heap} {I : Addr} {o : Obj} (R : Rl K σ ρ h) (O : Out K σ ρ I) (g : h.get? I = some o) : Rl K σ ⟨ρ.l, ρ.F, ρ.X.add I o, ρ.fs⟩ h := by
 have u : Up ρ ⟨ρ.l, ρ.F, ρ.X.add I o, ρ.fs⟩ := ⟨⟨[], by simp⟩, .refl _⟩
 refine ⟨R.gd, R.len, R.nd, R.lo, fun i a p e f => (R.ob i a p e f).move u fun ι e => e, R.fin, Fz.add_in R.xin g, fun i a p e f s => ?_, fun b p e => ?_, R.jt, R.fr, R.pj.1, (by
  show ρ.X.add I o PJ = none
  rw [Fz.add_ne (fun z2 => O.l (.inr (.inr (.inr (.inr z2.symm)))))]
  exact R.pj.2)⟩
 · obtain ⟨x, y⟩ := R.fz i a p e f s
   refine ⟨x, ?_⟩
   show ρ.X.add I o a = none
   rw [Fz.add_ne]
   · exact y
   · intro z; subst z; rw [O.s i p e f] at s; cases s
 · by_cases z : b = I
   · subst z; exact O.f
   · have e : ρ.X.add I o b = some p := e
     rw [Fz.add_ne z] at e; exact R.fx b p e
theorem Rl.unlockOut {σ : St} {l : List Addr} {F X : Fz} {fs : List Nat} {h : Heap} {I : Addr} {o : Obj} (R : Rl K σ ⟨l, F, X.add I o, fs⟩ h) (nx : X I = none) (nl : ¬ Low K I) : Rl K σ ⟨l, F, X, fs⟩ h /\ Out K σ ⟨l, F, X, fs⟩ I /\ h.get? I = some o := by
 have u : Up ⟨l, F, X.add I o, fs⟩ ⟨l, F, X, fs⟩ := ⟨⟨[], by simp⟩, .refl _⟩
 have sub : FSub X (X.add I o) := Fz.add_sub nx
 have ne : ∀ {j b p}, nth l j = some b -> nth σ j = some p -> shut p = false -> b ≠ I := fun e f s w => by
  have this : X.add I o _ = none := (R.fz _ _ _ e f s).2
  rw [w, Fz.add_self] at this; cases this
 refine ⟨⟨R.gd, R.len, R.nd, R.lo, fun i a p e f => (R.ob i a p e f).move u fun ι e => e, R.fin, fun b p e => R.xin b p (sub b p e), fun i a p e f s => ?_, fun b p e => R.fx b p (sub b p e), R.jt, R.fr, R.pj.1, (by
  cases ex : X PJ with
  | none => exact ex
  | some p => have := R.pj.2; rw [show (⟨l, F, X.add I o, fs⟩ : Rho).X PJ = some p from sub _ _ ex] at this; cases this)⟩, ⟨R.fx I o (Fz.add_self ..), nx, nl, fun i p e f => ?_⟩, R.xin I o (Fz.add_self ..)⟩
 · obtain ⟨x, y⟩ := R.fz i a p e f s
   refine ⟨x, ?_⟩
   have y : X.add I o a = none := y
   rw [Fz.add_ne (ne e f s)] at y; exact y
 · cases q : shut p with
   | true => rfl
   | false => exact absurd rfl (ne e f q)
theorem Ex.out {ρ ρ' : Rho} {h₀ h h' : Heap} {I : Addr} (x : Ex ρ h₀ ρ' h) (z : h₀.get? I = none) (nl : I ≠ PJ) (k : ∀ b o, b ≠ I -> h.get? b = some o -> h'.get? b = some o) : Ex ρ h₀ ρ' h' :=
 ⟨x.pre, x.fr, x.xs, x.es, fun b o e n m => k b o (fun w => by rw [w, z] at e; exact none_el e) (x.keep b o e n m), fun vs e => let ⟨m, f⟩ := x.tab vs e; ⟨m, k _ _ (Ne.symm nl) f⟩⟩
end
section
set_option genInjectivity false
set_option genSizeOf false
variable {K : Frag} {prog : Program} {w : World} {T : Tp} {n : Nat} {r : Rec}
theorem exs_ok (S : Snd K prog w n r) {c : Cx} {env : Env} {A : Around} (rm : Room n A) {x : List Stmt} : ∀ {σ σ' : St} {v : Fl} {ρ : Rho} {s : Shared}, exsA r c x σ = some (v, σ', true) -> Rl K σ ρ s.heap -> EnvR A c ρ env ->
 Wp K prog w FlR A s ρ (execs x env) v σ' := by
 induction x with
 | nil => exact fun h R e Q E q => wpAny_execs_nil (ok_q h q _ _ _ R (.refl ..) (.refl _) .next)
 | cons x l ih =>
  intro σ σ' v ρ s h R e Q E q
  refine bn2_el h fun a σ₁ h1 h => wpAny_execs_cons (S.ex h1 R e rm _ _ fun ρ1 s₁ u R1 X1 G1 V1 => ?_)
  induction V1 with
  | next => exact ih (s := s₁) h R1 (e.ex X1) _ _ fun ρ2 s2 u2 R2 X2 G2 V2 => q ρ2 s2 u2 R2 (X1.trans X2) (G1.trans G2) V2
  | brk => exact ok_q h q ρ1 s₁ _ R1 X1 G1 .brk
  | cont => exact ok_q h q ρ1 s₁ _ R1 X1 G1 .cont
  | ret V => exact ok_q h q ρ1 s₁ _ R1 X1 G1 (.ret V)
theorem wh_ok (S : Snd K prog w n r) {c : Cx} {t : Expr} {b : List Stmt} {env : Env} {A : Around} (rm : Room n A) {k : Nat} : ∀ {σ σ' : St} {v : Fl} {ρ : Rho} {s : Shared}, whA r c t b k σ = some (v, σ', true) -> Rl K σ ρ s.heap -> EnvR A c ρ env ->
 Cd K prog w FlR A s ρ (.whileLoop t b [] env) v σ' := by
 induction k with
 | zero => exact fun h => none_el h
 | succ k ih =>
  intro σ σ' v ρ s h R e Q q
  refine bn2_el h fun tv σ₁ h1 h => codeAny_of_tree ?_
  show wpAny _ A ((whileTurn t b [] env).onRaise (fun x => do noteFrame x env; theTreesLotGoes x)) _ _ s
  refine wpAny_onRaise (wpAny_bind (S.tr h1 R e rm _ _ fun ρ1 s₁ u R1 X1 G1 V1 => ?_))
  rw [V1]
  cases tv with
  | false => exact wpAny_bind (wpAny_execs_nil (wpAny_pure (ok_q h q ρ1 s₁ _ R1 X1 G1 .next)))
  | true =>
   refine bn2_el h fun fl σ2 h2 h => wpAny_bind (exs_ok S rm (s := s₁) h2 R1 (e.ex X1) _ _ fun ρ2 s2 u2 R2 X2 G2 V2 => ?_)
   have X := X1.trans X2
   have G := G1.trans G2
   have go : whA r c t b k σ2 = some (v, σ', true) -> codeAny (model prog w) A (.whileLoop t b [] env) Q s2 := fun h => ih (s := s2) h R2 (e.ex X) _ fun ρ3 s3 u3 R3 X3 G3 V3 => q ρ3 s3 u3 R3 (X.trans X3) (G.trans G3) V3
   induction V2 with
   | next => exact wpAny_pure (And.intro rfl (go h))
   | cont => exact wpAny_pure (And.intro rfl (go h))
   | brk => exact wpAny_pure (ok_q h q ρ2 s2 _ R2 X G .next)
   | ret V => exact wpAny_pure (ok_q h q ρ2 s2 _ R2 X G (.ret V))
theorem EnvR.ofL {A : Around} {c : Cx} {ρ ρ' : Rho} {env : Env} (e : EnvR A c ρ env) (q : ρ'.l = ρ.l) (es : ρ'.fs = ρ.fs) : EnvR A c ρ' env :=
 ⟨e.sc, e.fn, by rw [q]; exact e.loc, e.gl, e.bl, (fun x i h => let ⟨a, p, z⟩ := e.ce x i h; ⟨a, p, by rw [q]; exact z⟩), e.fa.ofL q es, e.hd⟩
theorem Ex.thru {ρ₀ ρ ρ3 : Rho} {h₀ h1 h3 : Heap} {X : Fz} {m : Nat} (x : Ex ρ₀ h₀ ρ h1) (q : ρ.l = ρ₀.l) (y : Ex ⟨ρ.l, ρ.F, X, ρ.fs⟩ h1 ρ3 h3) (hm : ρ₀.l.length = m) : Ex ρ₀ h₀ ⟨ρ3.l.take m, ρ3.F, ρ.X, ρ.fs⟩ h3 /\ ρ3.l.take m = ρ₀.l := by
 obtain ⟨t, f, _⟩ := y.pre
 have e : ρ3.l.take m = ρ₀.l := by
  rw [f]
  show (ρ.l ++ t).take m = _
  rw [q, <- hm]; simp
 refine ⟨⟨⟨[], by simp [e], nofun⟩, x.fr.trans y.fr, x.xs, x.es, fun b o g nb np => y.keep b o (x.keep b o g nb np) (by show b ∉ ρ.l; rw [q]; exact nb) np, fun vs g => ?_⟩, e⟩
 obtain ⟨a, g⟩ := x.tab vs g
 obtain ⟨a', g⟩ := y.tab _ g
 exact ⟨a ++ a', by rw [g, Array.append_assoc]⟩
structure LpC where
 A : Around
 c : Cx
 env : Env
 I : Addr
 fp : List Addr
 N : Nat
 P : Nat -> Value -> Prop
 Sx : Nat -> Heap -> Prop
 ρ : Rho
 h : Heap
 s : Shared
 m : Nat
structure Lp (K : Frag) (C : LpC) (l : List PyData) (k : Nat) (σ : St) (ρ : Rho) (s : Shared) : Prop where
 R : Rl K σ ρ s.heap
 O : Out K σ ρ C.I
 e : EnvR C.A C.c ρ C.env
 X : Ex C.ρ C.h ρ s.heap
 G : Gs C.s s
 ql : ρ.l = C.ρ.l
 fm : ∀ i ∈ ρ.fs, i < C.m
 fp : ∀ b ∈ C.fp, b = C.I \/ ∃ o, ρ.X b = some o
 st : C.Sx k s.heap
 kn : k + l.length = C.N
 P : ∀ j d v, nth l j = some d -> C.P (k + j) v -> FR ρ.F d v
 hI : C.h.get? C.I = none
 hm : C.ρ.l.length = C.m
 ob : ∀ k h, C.Sx k h -> ∃ o, h.get? C.I = some o
noncomputable abbrev lk (ρ : Rho) (I : Addr) (o : Obj) : Rho := ⟨ρ.l, ρ.F, ρ.X.add I o, ρ.fs⟩
structure Rdy (K : Frag) (C : LpC) (d : PyData) (k : Nat) (σ : St) (ρ : Rho) (v : Value) (h : Heap) (o : Obj) : Prop where
 st : C.Sx (k + 1) h
 go : h.get? C.I = some o
 R : Rl K σ ρ h
 X : Ex C.ρ C.h ρ h
 fd : FR ρ.F d v
 RL : Rl K σ (lk ρ C.I o) h
 eL : EnvR C.A C.c (lk ρ C.I o) C.env
theorem Lp.npj {C : LpC} {l : List PyData} {k : Nat} {σ : St} {ρ : Rho} {s : Shared} (H : Lp K C l k σ ρ s) : C.I ≠ PJ := fun z => H.O.l (.inr (.inr (.inr (.inr z))))
theorem Lp.kp {C : LpC} {l : List PyData} {k : Nat} {σ : St} {ρ : Rho} {s : Shared} {h' : Heap} (H : Lp K C l k σ ρ s) (kp : ∀ b o, b ∉ [C.I] -> s.heap.get? b = some o -> h'.get? b = some o) : ∀ b o, b ≠ C.I -> s.heap.get? b = some o -> h'.get? b = some o := fun b o nb e => kp b o (fun z => nb (List.mem_singleton.mp z)) e
theorem Lp.item (L : Lo K) {C : LpC} (W : Walks prog w C.A C.I C.fp [C.I] C.N C.P C.Sx) {d : PyData} {l : List PyData} {k : Nat} {σ : St} {ρ : Rho} {s : Shared} {Q : Option Value -> Shared -> Prop} {E : Value -> Shared -> Prop} (H : Lp K C (d :: l) k σ ρ s)
 (q : ∀ v h1 o1 t1, Rdy K C d k σ ρ v h1 o1 -> Q (some v) { s with heap := h1, toks := t1 }) : wpAny (model prog w) C.A (pyNext (.ref C.I)) Q E s := by
 refine W.item k _ _ _ (by rw [<- H.kn]; exact Nat.lt_add_of_pos_right (Nat.succ_pos _)) H.st fun v h1 t1 hv st1 kp => ?_
 have kp := H.kp kp
 have R1 := H.R.outStep L H.O kp
 obtain ⟨o1, go⟩ := H.ob _ _ st1
 exact q v h1 o1 t1 ⟨st1, go, R1, H.X.out H.hI H.npj kp, H.P 0 d v rfl hv, R1.lockOut H.O go, H.e.ofL rfl rfl⟩
theorem Lp.done (L : Lo K) {C : LpC} (W : Walks prog w C.A C.I C.fp [C.I] C.N C.P C.Sx) {k : Nat} {σ : St} {ρ : Rho} {s : Shared} {Q : Option Value -> Shared -> Prop} {E : Value -> Shared -> Prop} (H : Lp K C [] k σ ρ s)
 (q : ∀ s', Rl K σ ρ s'.heap -> Ex C.ρ C.h ρ s'.heap -> Gs C.s s' -> ρ.l = C.ρ.l -> Q none s') : wpAny (model prog w) C.A (pyNext (.ref C.I)) Q E s := by
 refine W.done _ _ _ ((show k = C.N from H.kn) ▸ H.st) fun h' tk' kp => ?_
 have kp := H.kp kp
 exact q _ (H.R.outStep L H.O kp) (H.X.out H.hI H.npj kp) (H.G.trans (.ht _ _ _)) H.ql
theorem Lp.back {C : LpC} (W : Walks prog w C.A C.I C.fp [C.I] C.N C.P C.Sx) {d : PyData} {l : List PyData} {k : Nat} {σ σ3 σ4 : St} {ρ ρ3 : Rho} {s s3 : Shared} {v : Value} {h1 : Heap} {o1 : Obj} (H : Lp K C (d :: l) k σ ρ s) (Y : Rdy K C d k σ ρ v h1 o1) (G3 : Gs s s3) (R3 : Rl K σ3 ρ3 s3.heap) (X3 : Ex (lk ρ C.I o1) h1 ρ3 s3.heap)
 (B : ∀ ρ' h, Rl K (cutS C.m C.m σ3) ρ' h -> Rl K σ4 ρ' h) : ∃ ρ', Lp K C l (k + 1) σ4 ρ' s3 := by
 obtain ⟨X4, ql4⟩ := Y.X.thru H.ql X3 H.hm
 have R4 := B _ _ (R3.cut (by rw [show ρ3.fs = ρ.fs from X3.es]; exact H.fm))
 rw [show ρ3.X = ρ.X.add C.I o1 from X3.xs, show ρ3.fs = ρ.fs from X3.es] at R4
 obtain ⟨R5, O5, gI⟩ := R4.unlockOut H.O.x H.O.l
 refine ⟨_, R5, O5, H.e.ofL (ql4.trans H.ql.symm) rfl, X4, H.G.trans G3, ql4, H.fm, H.fp, W.frame _ _ _ Y.st fun b hb o g => ?_, (Nat.succ_add_eq_add_succ k l.length).trans H.kn, fun j d' v' hj hv' => FR.mono X3.fr (H.P (j + 1) d' v' hj (by rw [show k + (j + 1) = k + 1 + j from (Nat.succ_add_eq_add_succ k j).symm]; exact hv')), H.hI, H.hm, H.ob⟩
 rcases H.fp b hb with z | ⟨p, hp⟩
 · rw [z] at g ⊢
   exact Option.some.inj (Y.go.symm.trans g) ▸ gI
 · exact Option.some.inj ((Y.R.xin b p hp).symm.trans g) ▸ R5.xin b _ hp
theorem forA_ok (L : Lo K) (S : Snd K prog w n r) {C : LpC} {t : Expr} {b : List Stmt} {xs : List Str} (hr : Room n C.A) (W : Walks prog w C.A C.I C.fp [C.I] C.N C.P C.Sx)
 (hlt : ∀ k (s : Shared) v (E : Value -> Shared -> Prop) (Q : Unit -> Shared -> Prop), C.Sx k s.heap -> Q () s -> wpAny (model prog w) C.A (letOwnedTupleGo t (.ref C.I) v) Q E s) {Q : Result -> Shared -> Prop} {l : List PyData} :
 ∀ {k : Nat} {σ σ' : St} {z : Unit} {ρ : Rho} {s : Shared}, forA r C.c t b xs C.m l σ = some (z, σ', true) -> Lp K C l k σ ρ s -> (∀ ρ' s', Rl K σ' ρ' s'.heap -> Ex C.ρ C.h ρ' s'.heap -> Gs C.s s' -> ρ'.l = C.ρ.l -> Q (.ok .next) s') ->
  codeAny (model prog w) C.A (.forLoop t (.ref C.I) b [] C.env) Q s := by
 induction l with
 | nil =>
  intro k σ σ' z ρ s hf H q
  have q := ok_u (q := fun σ' => ∀ ρ' s', Rl K σ' ρ' s'.heap -> Ex C.ρ C.h ρ' s'.heap -> Gs C.s s' -> ρ'.l = C.ρ.l -> Q (.ok .next) s') hf q
  refine codeAny_of_tree ?_
  show wpAny _ _ ((forTurn t (.ref C.I) b [] C.env).onRaise (fun x => do noteFrame x C.env; theTreesLotGoes x)) _ _ _
  refine wpAny_onRaise (wpAny_bind (wpAny_standAt (wpAny_bind (wpAny_onRaise (H.done L W fun s' R X G ql => wpAny_pure (And.intro rfl (codeAny_block (wpAny_execs_nil (q ρ s' R X G ql)))))))))
 | cons d l ih =>
  intro k σ σ' z ρ s hf H q
  refine bnd_el hf fun σ₁ g1 hf => bn2_el hf fun fl σ2 g2 hf => codeAny_of_tree ?_
  show wpAny _ _ ((forTurn t (.ref C.I) b [] C.env).onRaise (fun x => do noteFrame x C.env; theTreesLotGoes x)) _ _ _
  refine wpAny_onRaise (wpAny_bind (wpAny_standAt (wpAny_bind (wpAny_onRaise (H.item L W fun v h1 o1 t1 Y => wpAny_bind (hlt (k + 1) _ v _ _ Y.st ?_))))))
  refine wpAny_bind (storeT_ok (s := { s with heap := h1, toks := t1 }) L hr.2.2 g1 Y.RL Y.eL (ofP_ok Y.fd) fun h2 t2 R2 X2 => ?_)
  refine wpAny_bind (exs_ok S hr (s := { s with heap := h2, toks := t2 }) g2 R2 (Y.eL.ex X2) _ _ fun ρ3 s3 u R3 X3 G3 V3 => ?_)
  have go : forA r C.c t b xs C.m l (Mine.blur C.c xs (cutS C.m C.m σ2)) = some (z, σ', true) -> codeAny (model prog w) C.A (.forLoop t (.ref C.I) b [] C.env) Q s3 := fun hf => by
   obtain ⟨ρ', H'⟩ := H.back W Y ((Gs.ht s h2 t2).trans G3) R3 (X2.trans X3) fun ρ' h R => R.blur C.c xs
   exact ih hf H' q
  induction V3 with
  | next => exact wpAny_pure (And.intro rfl (go hf))
  | cont => exact wpAny_pure (And.intro rfl (go hf))
  | brk => exact none_el hf
  | ret V => exact none_el hf
end
section
variable {K : Frag} {prog : Program} {w : World} {T : Tp} {n : Nat} {r : Rec}
theorem FRs.nth {F : Fz} {l : List PyData} {vs : List Value} (h : FRs F l vs) : ∀ {j : Nat} {d : PyData} {v : Value}, Mine.nth l j = some d -> vs[j]? = some v -> FR F d v :=
 FRs.ind (P := fun l vs => ∀ {j : Nat} {d : PyData} {v : Value}, Mine.nth l j = some d -> vs[j]? = some v -> FR F d v) (fun {j d v} h _ => none_el (show (none : Option PyData) = some d from h)) (fun {d v l vs} a _ ih j e u h g => by
  cases j with
  | zero => exact Option.some.inj h ▸ Option.some.inj g ▸ a
  | succ j => exact ih (j := j) h g) h
structure Src2 (K : Frag) (prog : Program) (w : World) (A : Around) (u : Value) (l : List PyData) (ρ : Rho) (h : Heap) : Prop where
 it : ∀ (s : Shared) (E : Value -> Shared -> Prop) (Q : Value -> Shared -> Prop), s.heap = h ->
  (∀ (o : Obj) (fp : List Addr) (N : Nat) (P : Nat -> Value -> Prop) (Sx : Nat -> Heap -> Prop), Walks prog w A h.objs.size fp [h.objs.size] N P Sx -> (∀ k h', Sx k h' -> ∃ ob, h'.get? h.objs.size = some ob) ->
   (∀ (t : Expr) k (s' : Shared) v (E : Value -> Shared -> Prop) (Q : Unit -> Shared -> Prop), Sx k s'.heap -> Q () s' -> wpAny (model prog w) A (letOwnedTupleGo t (.ref h.objs.size) v) Q E s') ->
   (∀ b ∈ fp, b = h.objs.size \/ (∃ p, ρ.X b = some p)) -> Sx 0 (h.push o) -> N = l.length -> (∀ j d v, nth l j = some d -> P j v -> FR ρ.F d v) -> Q (.ref h.objs.size) { s with heap := h.push o }) ->
  wpAny (model prog w) A (pyIter u) Q E s
theorem letOwned_any {A : Around} {E : Value -> Shared -> Prop} {s : Shared} {t : Expr} {I : Addr} {v : Value} {o : Obj} {T : String} {Q : Unit -> Shared -> Prop} (g : s.heap.get? I = some o) (hc : o.cls = .type T) (hT : ["enumerate", "zip", "dict_itemiterator", "dict_reverseitemiterator", "odict_iterator", "itertools.zip_longest", "itertools.pairwise"].contains T = false) (q : Q () s) :
 wpAny (model prog w) A (letOwnedTupleGo t (.ref I) v) Q E s := by
 have body : ∀ (k : Addr), wpAny (model prog w) A (do
  let o <- load I
  match o.cls, o.data with
  | .type n, .fields vs =>
   if (["enumerate", "zip", "dict_itemiterator", "dict_reverseitemiterator", "odict_iterator", "itertools.zip_longest", "itertools.pairwise"].contains n && vs[0]? == some (rawInt k)) = true then do
    rule "for.unpacks-the-owned-tuple"
    updateField I 0 .none
   else pure ()
  | _, _ => pure ()) Q E s := fun k => by
  refine wpAny_bind (wpAny_load g ?_)
  rw [hc]
  cases o.data with
  | fields vs =>
   dsimp only
   rw [hT, Bool.false_and, if_neg Bool.false_ne_true]
   exact wpAny_pure q
  | _ => exact wpAny_pure q
 have both : wpAny (model prog w) A (do
  let (.ref r, .ref a) := (Value.ref I, v) | return
  let o <- load r
  match o.cls, o.data with
  | .type n, .fields vs =>
   if ["enumerate", "zip", "dict_itemiterator", "dict_reverseitemiterator", "odict_iterator", "itertools.zip_longest", "itertools.pairwise"].contains n && vs[0]? == some (rawInt a) then
    rule "for.unpacks-the-owned-tuple"
    updateField r 0 .none
  | _, _ => pure ()) Q E s := by
  cases v with
  | ref k => exact body k
  | _ => exact wpAny_pure q
 cases t with
 | Tuple => exact both
 | List => exact both
 | _ => exact wpAny_pure q
theorem src_list {A : Around} {a : Addr} {vs : List Value} {m : Nat} {l : List PyData} {ρ : Rho} {h : Heap} (hh : A.handled = none) (g : h.get? a = some (listOf ⟨vs⟩ m)) (W : FRs ρ.F l vs) (hx : ∃ p, ρ.X a = some p) : Src2 K prog w A (.ref a) l ρ h := by
 refine ⟨fun s E Q hs q => ?_⟩
 subst hs
 have ne : a ≠ s.heap.objs.size := fun z => by rw [z, get_size] at g; cases g
 refine wpAny_pyIter_list (items := ⟨vs⟩) ⟨_, g, rfl, m, rfl⟩ ?_
 refine q _ [s.heap.objs.size, a] vs.length _ _ (Walks.list hh s.heap.objs.size a ne ⟨vs⟩) ?_ ?_ ?_ ?_ W.length ?_
 · rintro k h' ⟨⟨o, e, _⟩, _⟩; exact ⟨o, e⟩
 · rintro t k s' v E Q ⟨⟨o, e, hc, hd⟩, _⟩ hq
   exact letOwned_any e hc (by decide) hq
 · intro b hb
   rcases List.mem_cons.mp hb with rfl | hb
   · exact .inl rfl
   · rcases List.mem_cons.mp hb with rfl | hb
     · exact .inr hx
     · cases hb
 · exact ⟨⟨_, Heap.get?_push_size _ rfl, rfl, rfl⟩, ⟨_, push_keep _ _ _ _ g, rfl, m, rfl⟩⟩
 · intro j d v h1 h2
   exact W.nth h1 (by simpa using h2)
theorem rangeL_nth : ∀ {n : Nat} {a st : Int} {j : Nat} {d : PyData}, nth (rangeL a st n) j = some d -> d = .int (a + j * st)
 | 0, _, _, _, _, h => by exact none_el h
 | n + 1, a, st, 0, d, h => by obtain rfl := Option.some.inj h; simp
 | n + 1, a, st, j + 1, d, h => by
  rw [rangeL_nth (n := n) (a := a + st) (st := st) (j := j) h]
  congr 1
  push_cast
  rw [Int.add_mul, Int.one_mul]; lia
theorem rangeL_length : ∀ {n : Nat} {a st : Int}, (rangeL a st n).length = n
 | 0, _, _ => rfl
 | n + 1, a, st => congrArg Nat.succ (rangeL_length (n := n))
theorem small_range {a b c : Int} (h1 : 0 <= a) (h2 : a <= 10000) (h3 : 0 <= b) (h4 : b <= 10000) (h5 : 0 < c) (h6 : c <= 10001) : Builtin.Range.small a b c = true /\ 0 <= Builtin.Range.rangeSize a b c /\ Builtin.Range.rangeSize a b c <= 10000 := by
 have sz : 0 <= Builtin.Range.rangeSize a b c /\ Builtin.Range.rangeSize a b c <= 10000 := by
  unfold Builtin.Range.rangeSize
  rw [if_pos h5]
  split
  · have e1 := Int.ediv_nonneg (a := b - a - 1) (b := c) (by lia) (by lia)
    have e2 := Int.ediv_le_self (a := b - a - 1) c (by lia)
    lia
  · decide
 refine ⟨?_, sz⟩
 unfold Builtin.Range.small
 obtain ⟨s1, s2⟩ := sz
 have m1 : (Builtin.Range.rangeSize a b c) * c <= 10000 * 10001 := Int.mul_le_mul s2 h6 (by lia) (by lia)
 have m2 : 0 <= (Builtin.Range.rangeSize a b c) * c := Int.mul_nonneg s1 (by lia)
 have f : ∀ i : Int, -1 <= i -> i <= 30000 -> Builtin.Range.rangeFitsLong i = true := fun i a b => by
  unfold Builtin.Range.rangeFitsLong
  rw [Bool.and_eq_true]
  exact ⟨decide_eq_true (by lia), decide_eq_true (by lia)⟩
 have up : ∀ {i : Int}, 0 <= i -> -1 <= i := fun h => Int.le_trans (by decide) h
 have lo : ∀ {i : Int}, i <= 10000 -> i <= 30000 := fun h => Int.le_trans h (by decide)
 rw [f a (up h1) (lo h2), f b (up h3) (lo h4), f c (up (Int.le_of_lt h5)) (Int.le_trans h6 (by decide)), f _ (by lia) (by lia), if_pos h5, f _ (by lia) (by lia)]
 simp
theorem wpAny_Call_args {A : Around} (S : Snd K prog w n r) {f : Value} (hk : ∃ k, (k = Keeper.frame \/ k = Keeper.machine \/ k = Keeper.boundFrame) /\ ∀ h, Looks (model prog w) h (keeperOf f) k)
 {c : Cx} {x : Str} {p pos : Pos} {as : List Expr} {σ σ0 σ₁ : St} {vs : List AV} {ρ : Rho} {E : Value -> Shared -> Prop} {env : Env} {s : Shared} {Q : Value -> Shared -> Prop} (hT : TOk K T)
 (h0 : nameA T c x σ = some (.raw f, σ0, true)) (h1 : evsA r c as σ0 = some (vs, σ₁, true)) (hp : plainArgs as = true) (R : Rl K σ ρ s.heap) (e : EnvR A c ρ env) (hr : Room n A)
 (q : ∀ ρ' s' us, Rl K σ₁ ρ' s'.heap -> Ex ρ s.heap ρ' s'.heap -> Gs s s' -> VRs ρ' vs us -> wpAny (model prog w) A (call f us) Q E s') :
 wpAny (model prog w) A (eval (.Call (.Name x p) as [] pos) env) Q E s := by
 refine wpAny_Call_Name_kw ?_
 obtain ⟨rfl, N1⟩ := name_ok (prog := prog) (w := w) (A := A) (p := p) hT h0 R e
 refine N1 _ _ fun ρ1 s₁ u R1 X1 G1 V1 => ?_
 rw [show u = f from V1]
 obtain ⟨k, k1, k2⟩ := hk
 refine callWith_ok (s := s₁) (ns := []) (ks := []) S (P := fun ι => True) (fun h ι => ⟨k, k1, k2 h⟩) (fun ι => trivial) h1 rfl evs_nil hp R1 (e.ex X1) hr fun ρ2 s2 us uks R2 X2 G2 V2 W2 => ?_
 exact isNil_ks rfl W2 (q ρ2 s2 us R2 (X1.trans X2) (G1.trans G2) V2)
theorem turns_ok (L : Lo K) (S : Snd K prog w n r) {c : Cx} {t : Expr} {b : List Stmt} {xs : List Str} {env : Env} {A : Around} (hr : Room n A) {l : List PyData} {σ σ' : St} {z : Unit} {ρ : Rho} {u : Value} {E : Value -> Shared -> Prop} {s : Shared} {Q : Flow -> Shared -> Prop}
 (SR : Src2 K prog w A u l ρ s.heap) (hf : forA r c t b xs (len σ) l (blur c xs σ) = some (z, σ', true)) (R : Rl K σ ρ s.heap) (e : EnvR A c ρ env)
 (q : ∀ ρ' s', Rl K σ' ρ' s'.heap -> Ex ρ s.heap ρ' s'.heap -> Gs s s' -> ρ'.l = ρ.l -> Q .next s') :
 wpAny (model prog w) A (pyIter u) (fun it s2 => codeAny (model prog w) A (.forLoop t it b [] env) (fun r s' => match r with | .ok f => Q f s' | .error e => cameBackBy (model prog w) A env E e s') s2) E s := by
 refine SR.it s _ _ rfl fun o fp N P Sx W hob hlt hfp st hN hP => ?_
 have R1 := (R.blur c xs).grow L (push_keep s.heap o)
 exact forA_ok (C := ⟨A, c, env, s.heap.objs.size, fp, N, P, Sx, ρ, s.heap, s, len σ⟩) L S hr W (hlt t) hf ⟨R1, (R.blur c xs).out (get_size s.heap), e, .grow (push_keep _ _), .hh _ _, rfl, fun i mi => by obtain ⟨ln, hl⟩ := R.fr i mi; rw [len_eq]; exact nth_len hl, hfp, st, by rw [Nat.zero_add]; exact hN.symm,
  fun j d v h1 h2 => hP j d v h1 (by rw [Nat.zero_add] at h2; exact h2), get_size s.heap, by rw [len_eq]; exact R.len, hob⟩ q
theorem src_range {A : Around} {a b c : Int} {t u v : Tok} {R0 : Addr} {l : List PyData} {ρ : Rho} {h : Heap} (hh : A.handled = none) (g : IsRange h R0 a b c t u v) (hs : Builtin.Range.small a b c = true) (hl : l = rangeL a c (Builtin.Range.rangeSize a b c).toNat) (h0 : 0 <= Builtin.Range.rangeSize a b c) : Src2 K prog w A (.ref R0) l ρ h := by
 refine ⟨fun s E Q hs' q => ?_⟩
 subst hs'
 refine wpAny_pyIter_range g hs ?_
 refine q _ [s.heap.objs.size] (Builtin.Range.rangeSize a b c).toNat _ _ (Walks.range hh s.heap.objs.size a c _) ?_ ?_ ?_ ?_ ?_ ?_
 · intro k h' e; exact ⟨_, e⟩
 · intro t k s' v E Q e hq
   exact letOwned_any e rfl (by decide) hq
 · intro b hb
   rcases List.mem_cons.mp hb with rfl | hb
   · exact .inl rfl
   · cases hb
 · show Heap.get? _ _ = _
   rw [Heap.get?_push_size _ rfl, Int.toNat_of_nonneg h0]
   simp
 · rw [hl, rangeL_length]
 · rintro j d v h1 ⟨tt, rfl⟩
   rw [hl] at h1
   rw [rangeL_nth h1]
   exact .int _ _
noncomputable abbrev cmE (x : Str) (px pos : Pos) (iter elt : Expr) (ifs : List Expr) (scope : Scope) : Expr := .ListComp elt [⟨.Name x px, iter, ifs, 0⟩] scope pos
theorem comp_item (L : Lo K) {C : LpC} (W : Walks prog w C.A C.I C.fp [C.I] C.N C.P C.Sx) {x : Str} {px : Pos} {iter : Expr} {d : PyData} {l : List PyData} {k : Nat} {σ σ₁ : St} {ρ : Rho} {s : Shared} (H : Lp K C (d :: l) k σ ρ s) (g1 : storeL C.c x (ofP d) σ = some σ₁) {k' : Value -> Sem Fin} {R' : Fin -> Shared -> Prop} {E' : Value -> Shared -> Prop}
 (q : ∀ v h1 o1 t2 h2, Rdy K C d k σ ρ v h1 o1 -> Rl K σ₁ (lk ρ C.I o1) h2 -> Ex (lk ρ C.I o1) h1 (lk ρ C.I o1) h2 -> wpAny (model prog w) C.A (k' v) R' E' { s with heap := h2, toks := t2 }) :
 wpAny (model prog w) C.A (standAt iter.pos >>= fun ι => pyNext (.ref C.I) >>= fun r => match r with
  | none => pure (.done .next)
  | some v => letOwnedTupleGo (.Name x px) (.ref C.I) v >>= fun ι => assign (.Name x px) C.env v >>= fun ι => k' v) R' E' s :=
 wpAny_bind (wpAny_standAt (wpAny_bind (H.item L W fun v h1 o1 t1 Y => wpAny_bind (wpAny_pure (wpAny_bind (wpAny_assign_Name (storeL_ok (s := { s with heap := h1, toks := t1 }) L g1 Y.RL Y.eL (ofP_ok Y.fd) fun h2 t2 R2 X2 => q v h1 o1 t2 h2 Y R2 X2)))))))
theorem compL_ok (L : Lo K) (S : Snd K prog w n r) {C : LpC} {x : Str} {px pos : Pos} {iter elt : Expr} {ifs : List Expr} {scope : Scope} {ka : Nat} (hr : Room n C.A) (hi : Nat.ble (len ifs) 1 = true) {accA : Addr} (W : Walks prog w C.A C.I C.fp [C.I] C.N C.P C.Sx)
 {Q : Result -> Shared -> Prop} (hka : nth C.ρ.l ka = some accA) {l : List PyData} :
 ∀ {k : Nat} {σ σ' : St} {z : Unit} {ρ : Rho} {s : Shared}, compL r C.c x ifs elt ka C.m l σ = some (z, σ', true) -> Lp K C l k σ ρ s -> (∀ ρ' s', Rl K σ' ρ' s'.heap -> Ex C.ρ C.h ρ' s'.heap -> Gs C.s s' -> ρ'.l = C.ρ.l -> Q (.ok .next) s') ->
  codeAny (model prog w) C.A (.compLoop (cmE x px pos iter elt ifs scope) 0 (.ref C.I) (.ref accA) C.env) Q s := by
 induction l with
 | nil =>
  intro k σ σ' z ρ s hf H q
  have q := ok_u (q := fun σ' => ∀ ρ' s', Rl K σ' ρ' s'.heap -> Ex C.ρ C.h ρ' s'.heap -> Gs C.s s' -> ρ'.l = C.ρ.l -> Q (.ok .next) s') hf q
  refine codeAny_of_tree ?_
  show wpAny _ _ ((compTurn (cmE x px pos iter elt ifs scope) 0 (.ref C.I) (.ref accA) C.env).onRaise (fun x => do noteFrame x C.env; theTreesLotGoes x)) _ _ _
  refine wpAny_onRaise ?_
  have fin : wpAny (model prog w) C.A (pyNext (.ref C.I)) (fun r s₁ => r = none /\ Q (.ok .next) s₁) (fun ι ι => False) s := H.done L W fun s' R X G ql => ⟨rfl, q ρ s' R X G ql⟩
  cases ifs with
  | nil =>
   rw [compTurn_list1]
   exact wpAny_bind (wpAny_standAt (wpAny_bind (wpAny_mono fin (fun r s₁ h1 => h1.1 ▸ wpAny_pure h1.2) fun ι ι f => f.elim)))
  | cons t ifs =>
   cases ifs with
   | nil =>
    rw [compTurn_list]
    exact wpAny_bind (wpAny_standAt (wpAny_bind (wpAny_mono fin (fun r s₁ h1 => h1.1 ▸ wpAny_pure h1.2) fun ι ι f => f.elim)))
   | cons => exact ff_el hi
 | cons d l ih =>
  intro k σ σ' z ρ s hf H q
  refine bnd_el hf fun σ₁ g1 hf => bn2_el hf fun tb σ2 g2 hf => codeAny_of_tree ?_
  show wpAny _ _ ((compTurn (cmE x px pos iter elt ifs scope) 0 (.ref C.I) (.ref accA) C.env).onRaise (fun x => do noteFrame x C.env; theTreesLotGoes x)) _ _ _
  refine wpAny_onRaise ?_
  -- the turns behind this one
  have tail : ∀ {v : Value} {h1 : Heap} {s3 : Shared} {o1 : Obj} {σ3 : St} {ρ3 : Rho}, Rdy K C d k σ ρ v h1 o1 -> Gs s s3 -> Rl K σ3 ρ3 s3.heap -> Ex (lk ρ C.I o1) h1 ρ3 s3.heap ->
   compL r C.c x ifs elt ka C.m l (Mine.blurC C.c x (cutS C.m C.m σ3)) = some (z, σ', true) -> codeAny (model prog w) C.A (.compLoop (cmE x px pos iter elt ifs scope) 0 (.ref C.I) (.ref accA) C.env) Q s3 := fun Y G3 R3 X3 hf => by
   obtain ⟨ρ', H'⟩ := H.back W Y G3 R3 X3 fun ρ' h R => R.blurC C.c x
   exact ih hf H' q
  -- the element
  have elem : ∀ {v : Value} {h1 : Heap} {s2 : Shared} {o1 : Obj} {ρ2 : Rho} {E' : Value -> Shared -> Prop}, Rdy K C d k σ ρ v h1 o1 -> Gs s s2 -> Rl K σ2 ρ2 s2.heap -> Ex (lk ρ C.I o1) h1 ρ2 s2.heap -> tb = true ->
   wpAny (model prog w) C.A (eval elt C.env) (fun v s3 => wpAny (model prog w) C.A (call (.builtin "list.append") [.ref accA, v]) (fun ι s4 => codeAny (model prog w) C.A (.compLoop (cmE x px pos iter elt ifs scope) 0 (.ref C.I) (.ref accA) C.env) Q s4) E' s3) E' s2 := fun {v h1 s2 o1 ρ2 E'} Y G2 R2 X2 htb => by
   subst htb
   refine bn2_el (pk_t hf) fun v σ3 g3 hf => bnd_el hf fun p g4 hf => bnd_el hf fun acc hacc hf => chk_el hf fun fl hf => ?_
   refine S.ev (s := s2) g3 R2 (Y.eL.ex X2) hr _ _ fun ρ3 s3 u R3 X3 G3 V3 => ?_
   obtain ⟨ρ4, R4, X4, f4⟩ := frz_ok R3 g4 V3
   have hka4 : nth ρ4.l ka = some accA := nth_ex X4 (nth_ex X3 (nth_ex X2 (by show nth ρ.l ka = _; rw [H.ql]; exact hka)))
   refine append_ok (s := s3) L R4 hka4 (lsO_inv hacc) f4 fl fun h5 R5 X5 => ?_
   exact tail Y ((G2.trans G3).trans (.hh _ _)) R5 (((X2.trans X3).trans X4).trans X5) hf
  cases ifs with
  | nil =>
   rw [compTurn_list1]
   refine comp_item L W H g1 (k' := fun ι => _) fun v h1 o1 t2 h2 Y R2 X2 => ?_
   exact wpAny_bind (wpAny_bind (wpAny_mono (elem Y (.ht _ _ _) (ok_el (P := fun ι σ2 => Rl K σ2 (lk ρ C.I o1) h2) g2 R2) X2 (ok_el (P := fun tb ι => tb = true) g2 rfl)) (fun v s3 h3 => wpAny_bind (wpAny_mono h3 (fun ι s4 h4 => wpAny_pure (wpAny_pure (And.intro rfl h4))) fun ι ι f => f)) fun ι ι f => f))
  | cons t ifs =>
   cases ifs with
   | nil =>
    rw [compTurn_list]
    refine comp_item L W H g1 (k' := fun ι => _) fun v h1 o1 t2 h2 Y R2 X2 => ?_
    refine bn2_el g2 fun tb' σ2' g3 g2 => wpAny_bind (wpAny_tests_one (S.tr (s := { s with heap := h2, toks := t2 }) g3 R2 (Y.eL.ex X2) hr _ _ fun ρ3 s3 u R3 X3 G3 V3 => ?_))
    rw [V3]
    have G := (Gs.ht s h2 t2).trans G3
    have X := X2.trans X3
    cases tb' with
    | false => exact wpAny_pure (And.intro rfl (tail Y G R3 X (ok_el (P := fun tb σ2 => pk tb _ (compL r C.c x [t] elt ka C.m l (Mine.blurC C.c x (cutS C.m C.m σ2))) = some (z, σ', true) -> _) (pk_f g2) (fun hf => pk_f hf) hf)))
    | true =>
     have g2 := pk_t g2
     exact wpAny_bind (wpAny_bind (wpAny_mono (elem Y G (ok_el (P := fun ι σ2 => Rl K σ2 ρ3 s3.heap) g2 R3) X (ok_el (P := fun tb ι => tb = true) g2 rfl)) (fun v s3 h3 => wpAny_bind (wpAny_mono h3 (fun ι s4 h4 => wpAny_pure (wpAny_pure (And.intro rfl h4))) fun ι ι f => f)) fun ι ι f => f))
   | cons => exact ff_el hi
noncomputable def Cm (ρ : Rho) (aI : List (Str × Nat)) (aA : List (Str × Addr)) : Prop := ∀ x i, look x aI = some i -> ∃ a, aA.lookup x = some a /\ nth ρ.l i = some a
theorem Cm.cons {ρ : Rho} {aI : List (Str × Nat)} {aA : List (Str × Addr)} (H : Cm ρ aI aA) {nm : Str} {i : Nat} {a : Addr} (e : nth ρ.l i = some a) : Cm ρ ((nm, i) :: aI) ((nm, a) :: aA) := fun x j hx => by
 unfold look at hx
 rw [List.lookup_cons]
 cases q : seq x nm with
 | true =>
  rw [show (x == nm) = true from beq_iff_eq.mpr (seq_iff.mp q)]
  rw [q] at hx
  exact ⟨a, rfl, Option.some.inj hx ▸ e⟩
 | false =>
  rw [show (x == nm) = false from beq_eq_false_iff_ne.mpr (seq_false.mp q)]
  rw [q] at hx
  exact H x j hx
theorem Cm.ex {ρ ρ' : Rho} {h h' : Heap} {aI : List (Str × Nat)} {aA : List (Str × Addr)} (H : Cm ρ aI aA) (X : Ex ρ h ρ' h') : Cm ρ' aI aA := fun x i hx => let ⟨a, p, q⟩ := H x i hx; ⟨a, p, nth_ex X q⟩
theorem cells_ok (L : Lo K) {names : List (Str × NameKind)} : ∀ {σ : St} {ρ : Rho} {h : Heap} {aI : List (Str × Nat)} {aA : List (Str × Addr)}, Rl K σ ρ h -> Cm ρ aI aA ->
 ∃ ρ', Rl K (σ ++ ownO names) ρ' (pushCells h names) /\ Ex ρ h ρ' (pushCells h names) /\ Cm ρ' (ownC (len σ) names aI) (cellsFrom h.objs.size names aA) := by
 induction names with
 | nil => exact fun {σ ρ h aI aA} R H => ⟨ρ, by rw [show σ ++ ownO [] = σ from List.append_nil _]; exact R, .refl .., H⟩
 | cons p l ih =>
  obtain ⟨nm, k⟩ := p
  intro σ ρ h aI aA R H
  unfold ownO ownC pushCells cellsFrom
  dsimp only
  cases hk : k == NameKind.cell with
  | true =>
   obtain ⟨R1, X1, e1⟩ := R.new L { cls := .type "cell", data := .cell none } (.cell (v := .unk) ⟨_, Heap.get?_push_size _ rfl, rfl⟩ (.inl rfl))
   obtain ⟨ρ', R', X', H'⟩ := ih R1 ((H.ex X1).cons e1)
   rw [show (σ ++ [AO.cell .unk]) ++ ownO l = σ ++ .cell .unk :: ownO l by rw [List.append_assoc]; rfl] at R'
   rw [show len (σ ++ [AO.cell .unk]) = Nat.succ (len σ) by rw [len_eq, len_eq]; simp, push_size] at H'
   rw [pk_true, pk_true]
   exact ⟨ρ', R', X1.trans X', H'⟩
  | false =>
   rw [pk_false, pk_false]
   exact ih R H
noncomputable def closAL (env : Env) : List (Str × NameKind) -> List (Str × Addr) -> List (Str × Addr)
 | [], a => a
 | p :: l, a => pk (p.2 == .free) (closAL env l ((p.1, (env.cells.lookup p.1).getD 0) :: a)) (closAL env l a)
theorem clos_ok {A : Around} {c : Cx} {ρ : Rho} {env : Env} (e : EnvR A c ρ env) {f : Str × NameKind -> List (Str × Addr) -> Sem (ForInStep (List (Str × Addr)))} (hf : ∀ name kind cells, f (name, kind) cells = if kind == .free then (do let a <- cellOf env name; pure (.yield ((name, a) :: cells))) else pure (.yield cells)) {names : List (Str × NameKind)} :
 ∀ {aI cl : List (Str × Nat)} {aA : List (Str × Addr)}, closA c names aI = some cl -> Cm ρ aI aA -> forIn names aA f = (pure (closAL env names aA) : Sem _) /\ Cm ρ cl (closAL env names aA) := by
 induction names with
 | nil => exact fun h H => ⟨by rw [List.forIn_nil]; rfl, Option.some.inj h ▸ H⟩
 | cons p l ih =>
  obtain ⟨nm, k⟩ := p
  intro aI cl aA h H
  rw [List.forIn_cons, hf]
  unfold closAL
  unfold closA at h
  dsimp only at h ⊢
  cases hk : k == NameKind.free with
  | true =>
   rw [hk] at h
   refine bnd_el (pk_t h) fun i h1 h => ?_
   obtain ⟨a, p1, p2⟩ := e.ce nm i h1
   rw [pk_true, p1, show cellOf env nm = pure a by unfold cellOf; rw [p1]]
   exact ih h (H.cons p2)
  | false =>
   rw [hk] at h
   rw [pk_false]
   exact ih (pk_f h) H
theorem closure_ok {A : Around} {c : Cx} {ρ : Rho} {env : Env} (e : EnvR A c ρ env) {sc : Scope} {cl : List (Str × Nat)} (h : closA c sc.names [] = some cl) :
 closureFor sc env = pure (closAL env sc.names []) /\ Cm ρ cl (closAL env sc.names []) := by
 simp only [closureFor]
 refine ⟨?_, (clos_ok e (f := fun p cells => if p.2 == .free then (do let a <- cellOf env p.1; pure (.yield ((p.1, a) :: cells))) else pure (.yield cells)) (fun ι ι ι => rfl) h fun x i hx => none_el hx).2⟩
 rw [(clos_ok e (fun name kind cells => by cases hk : kind == NameKind.free <;> simp [hk]) h fun x i hx => none_el hx).1]
 rfl
theorem relabel_eq {A : Around} {c : Cx} {ρ : Rho} {env : Env} (e : EnvR A c ρ env) (sc : Scope) : relabel sc env = { sc with names := relN c sc.names } := by
 unfold relabel
 congr 1
 have hk : (env.scope.kind == ScopeKind.function) = true := by rw [e.sc, e.fn]; rfl
 have : ∀ l : List (Str × NameKind), (l.map fun (x : Str × NameKind) => match x with | (n, k) => if (k == NameKind.free && env.scope.kind == .function && env.kindOf n == some .cell) = true then (n, NameKind.cell) else (n, k)) = relN c l := by
  intro l
  induction l with
  | nil => rfl
  | cons p l ih =>
   obtain ⟨nm, k⟩ := p
   rw [List.map_cons, ih]
   refine congrArg (· :: relN c l) (show _ = pk (k == NameKind.free) (nm, isCel (look nm c.scope.names)) (nm, k) from ?_)
   dsimp only
   rw [hk, kindOf_eq e nm]
   cases hf : k == NameKind.free with
   | true =>
    rw [pk_true, eq_of_beq hf]
    cases q : look nm c.scope.names with
    | none => rfl
    | some z => cases z <;> rfl
   | false => rw [pk_false]; rfl
 exact this sc.names
theorem locOk_ok {ns : List (Str × NameKind)} {l : List (Str × NameKind)} : locOk ns l = true -> ∀ x ∈ l, x.2 = .local -> ns.lookup x.1 = some .local := by
 induction l with
 | nil => exact fun ι ι h => nomatch h
 | cons p l ih =>
  exact fun h => and_el h fun h1 h2 => List.forall_mem_cons.mpr ⟨fun hl => or_el h1 (fun z => absurd (not_el z) (by rw [hl]; decide)) fun z => by
   rw [<- look_eq]
   cases q : look p.1 ns with
   | none => rw [q] at z; exact ff_el z
   | some k =>
    rw [q] at z
    cases k with
    | «local» => rfl
    | _ => exact ff_el z, ih h2⟩
theorem compEnv_ok (L : Lo K) {c : Cx} {sc : Scope} {cl : List (Str × Nat)} {clA : List (Str × Addr)} {σ : St} {ρ : Rho} {env : Env} {A : Around} {E : Value -> Shared -> Prop} {s : Shared} {Q : Env -> Shared -> Prop} (R : Rl K σ ρ s.heap) (e : EnvR A c ρ env) (hcl : ∀ x i, look x cl = some i -> ∃ a, clA.lookup x = some a /\ nth ρ.l i = some a) (hk : sc.kind = .function)
 (q : ∀ ρ' h' cenv, s.heap.get? cenv.locals = none -> (∀ b o, s.heap.get? b = some o -> h'.get? b = some o) -> Rl K (σ ++ (.ns [] :: ownO sc.names)) ρ' h' -> Ex ρ s.heap ρ' h' -> EnvR A ⟨len σ, { sc with names := relN c sc.names }, ownC (Nat.succ (len σ)) sc.names cl⟩ ρ' { cenv with scope := relabel sc env } -> Q cenv { s with heap := h' }) :
 wpAny (model prog w) A (newFunctionEnv sc env.globals clA [] env.qual none .none (some env)) Q E s := by
 simp only [newFunctionEnv, Option.isSome_some, if_true]
 refine wpAny_bind (wpAny_alloc ?_)
 refine wpAny_bind (wpAny_layCells _ (fun name kind cells => by cases hkc : kind == NameKind.cell <;> simp [hkc]) _ _ _ _ ?_)
 have hns := Heap.Ns.new s.heap (.type "dict")
 obtain ⟨R1, X1, e1⟩ := R.new L { cls := .type "dict", data := .dict #[] } (.ns (l := []) hns fun x v hx => by exact none_el hx)
 obtain ⟨ρ', R', X', H'⟩ := cells_ok (names := sc.names) (aI := cl) (aA := clA) L R1 (fun x i hx => by obtain ⟨a, p1, p2⟩ := hcl x i hx; exact ⟨a, p1, nth_append_left p2⟩)
 have e3 : len (σ ++ [AO.ns []]) = Nat.succ (len σ) := by rw [len_eq, len_eq]; simp
 rw [e3] at H'
 have e4 : (σ ++ [AO.ns []]) ++ ownO sc.names = σ ++ (.ns [] :: ownO sc.names) := by rw [List.append_assoc]; rfl
 rw [e4] at R'
 refine wpAny_pure (q ρ' _ _ (get_size s.heap) (fun b o g => pushCells_keeps _ _ b o (push_keep _ _ b o g)) R' (X1.trans X') ⟨relabel_eq e sc, hk, nth_ex X' e1, e.gl, e.bl, (fun x i hx => H' x i hx), e.fa.ex (X1.trans X'), e.hd⟩)
theorem Ex.mix {ρ ρ5 ρ' : Rho} {h h4 h' : Heap} (x : Ex ρ h ρ5 h4) (y : Ex ρ5 h ρ' h') : Ex ρ h ρ' h' := by
 obtain ⟨t, e, ht⟩ := x.pre
 obtain ⟨u, f, hu⟩ := y.pre
 have cs : ∀ a ∈ t, a ∈ ρ.l \/ a = PJ \/ h.get? a = none := ht
 refine ⟨⟨t ++ u, by rw [f, e, List.append_assoc], fun a ha => ?_⟩, x.fr.trans y.fr, y.xs.trans x.xs, y.es.trans x.es, fun b o g n m => y.keep b o g (fun z => ?_) m, y.tab⟩
 · rcases List.mem_append.mp ha with ha | ha
   · exact ht a ha
   · rcases hu a ha with z | z | z
     · rw [e] at z
       rcases List.mem_append.mp z with z | z
       · exact .inl z
       · exact ht a z
     · exact .inr (.inl z)
     · exact .inr (.inr z)
 · rw [e] at z
   rcases List.mem_append.mp z with z | z
   · exact n z
   · rcases ht b z with q | q | q
     · exact n q
     · exact m q
     · rw [q] at g; cases g
noncomputable def ItQ (K : Frag) (prog : Program) (w : World) (A : Around) (u : Value) (σ : St) (ρ : Rho) (h : Heap) (p : List PyData × Option Nat) : Prop :=
 ∃ X, Rl K (lockA p.2 σ) ⟨ρ.l, ρ.F, X, ρ.fs⟩ h /\ Src2 K prog w A u p.1 ⟨ρ.l, ρ.F, X, ρ.fs⟩ h /\ ∀ (σ' : St) (F' : Fz) (l' : List Addr) (h' : Heap) (P : Obj -> Prop), (∃ t, l' = ρ.l ++ t) -> FSub ρ.F F' -> ∀ (XX : Fz), Rl K σ' ⟨l', F', XX, ρ.fs⟩ h' -> (XX = X) -> Rl K (unlockA p.2 p.1 σ') ⟨l', F', ρ.X, ρ.fs⟩ h' /\ ∀ C, Out K σ' ⟨l', F', X, ρ.fs⟩ C -> Out K (unlockA p.2 p.1 σ') ⟨l', F', ρ.X, ρ.fs⟩ C
theorem iter_list {A : Around} (hh : A.handled = none) {i : Nat} {a : Addr} {l : List PyData} {σ : St} {ρ : Rho} {h : Heap} (hl : nth σ i = some (.list l)) (R : Rl K σ ρ h) (ha : nth ρ.l i = some a) : ItQ K prog w A (.ref a) σ ρ h (l, some i) := by
 obtain ⟨vs, m, g, W⟩ := (R.ob i a _ ha hl).out
 obtain ⟨nf, nx⟩ := R.fz i a _ ha hl rfl
 refine ⟨ρ.X.add a (listOf ⟨vs⟩ m), R.lock ha hl rfl g (R.nofs hl nofun), src_list hh g W ⟨_, Fz.add_self ..⟩, fun σ' F' l' h' ι ht fs XX R' ex => ?_⟩
 subst ex
 obtain ⟨t, rfl⟩ := ht
 refine ⟨R'.unlock (nth_append_left ha) nx (R.lo i a _ ha hl rfl) (.list (R'.xin _ _ (Fz.add_self ..)) (W.mono fs)), fun C O => ?_⟩
 have ne : C ≠ a := fun z => none_el ((z ▸ O.x).symm.trans (show (ρ.X.add a (listOf ⟨vs⟩ m)) a = some (listOf ⟨vs⟩ m) from Fz.add_self ..))
 refine ⟨O.f, (Fz.add_ne ne).symm.trans O.x, O.l, fun j o e f => ?_⟩
 rcases nth_setNth f with ⟨i1, p1⟩ | ⟨n1, f1⟩
 · rw [<- i1] at e
   exact absurd (Option.some.inj (e.symm.trans (nth_append_left ha))) ne
 · exact O.s j o e f1
theorem chars_len (l : List Nat) : (chars l).length = l.length := by
 induction l with
 | nil => rfl
 | cons _ _ ih => exact congrArg Nat.succ ih
theorem chars_nth {l : List Nat} : ∀ {j : Nat} {d : PyData}, nth (chars l) j = some d -> ∃ c, l[j]? = some c /\ d = .str ⟨⟨[c]⟩⟩ := by
 induction l with
 | nil => exact fun h => none_el h
 | cons c l ih =>
  intro j d h
  cases j with
  | zero => exact ⟨c, rfl, (Option.some.inj h).symm⟩
  | succ j => exact let ⟨c', h1, h2⟩ := ih (j := j) h; ⟨c', h1, h2⟩
theorem iter_str {A : Around} (hh : A.handled = none) {x : Str} {t : Tok} {σ : St} {ρ : Rho} {h : Heap} (hx : ascii x.cps.toList = true) (R : Rl K σ ρ h) : ItQ K prog w A (.str x t) σ ρ h (chars x.cps.toList, none) := by
 refine ⟨ρ.X, R, ⟨fun s E Q hs q => ?_⟩, fun σ' F' l' h' ι ht fs XX R' ex => ⟨ex ▸ R', fun C O => O⟩⟩
 subst hs
 refine wpAny_pyIter_ascii (by
  rw [Array.all_eq_true_iff_forall_mem]
  exact fun c hc => decide_eq_true (ascii_ok hx c (Array.mem_toList_iff.mpr hc))) ?_
 refine q _ [s.heap.objs.size] x.cps.size _ _ (Walks.strAscii hh s.heap.objs.size x t) (fun k h' ⟨o, g, _⟩ => ⟨o, g⟩) (fun t k s' v E Q ⟨o, g, hc, _⟩ hq => letOwned_any g hc (by decide) hq)
  (fun b hb => .inl (List.mem_singleton.mp hb)) ⟨_, Heap.get?_push_size _ rfl, rfl, rfl⟩ ((chars_len _).trans Array.length_toList).symm ?_
 rintro j d v h1 ⟨c, tt, hc, rfl⟩
 obtain ⟨c', h2, rfl⟩ := chars_nth h1
 rw [Array.getElem?_toList, hc] at h2
 exact Option.some.inj h2 ▸ .str _ _
theorem iter_ok {A : Around} (hh : A.handled = none) {v : AV} {u : Value} {p : List PyData × Option Nat} {σ : St} {ρ : Rho} {h : Heap} (e : iterA v σ = some p) (R : Rl K σ ρ h) (V : VR ρ v u) : ItQ K prog w A u σ ρ h p := by
 cases v with
 | ref i => exact V.rf fun a ha => bnd_el e fun l hl e => some_el e (iter_list hh (lsO_inv hl) R ha)
 | str x => exact V.st fun t => gd_el e fun hx e => some_el e (iter_str hh hx R)
 | _ => exact none_el e
theorem comp_core (L : Lo K) (S : Snd K prog w n r) {c : Cx} {x : Str} {px pos : Pos} {iter elt : Expr} {ifs : List Expr} {sc : Scope} {cl : List (Str × Nat)} {clA : List (Str × Addr)} {items : List PyData} {σL σ2 : St} {z : Unit} {l0 : List Addr} {F0 X : Fz} {fs : List Nat} {env : Env} {A : Around} (hr : Room n A) (hi : Nat.ble (len ifs) 1 = true) {u : Value} {E : Value -> Shared -> Prop} {s : Shared} {RR : Value -> Addr -> Result -> Shared -> Prop} {nl : List (Str × AV)}
 (R : Rl K σL ⟨l0, F0, X, fs⟩ s.heap) (SR : Src2 K prog w A u items ⟨l0, F0, X, fs⟩ s.heap) (e : EnvR A c ⟨l0, F0, X, fs⟩ env) (hcl : ∀ x i, look x cl = some i -> ∃ a, clA.lookup x = some a /\ nth l0 i = some a) (hk : sc.kind = .function)
 (hf : compL r ⟨Nat.succ (len σL), { sc with names := relN c sc.names }, ownC (Nat.succ (Nat.succ (len σL))) sc.names cl⟩ x ifs elt (len σL) (Nat.add (Nat.succ (Nat.succ (len σL))) (len (ownO sc.names))) items
  (blurC ⟨Nat.succ (len σL), { sc with names := relN c sc.names }, ownC (Nat.succ (Nat.succ (len σL))) sc.names cl⟩ x (σL ++ (.list [] :: .ns [] :: ownO sc.names))) = some (z, σ2, true))
 (hns : nth σ2 (Nat.succ (len σL)) = some (.ns nl))
 (q : ∀ accA C oC mC l' F' s', (∀ h : Heap, h.get? C = some oC -> h.Ns C mC) -> Rl K (setNth σ2 (Nat.succ (len σL)) .junk) ⟨l', F', X.add C oC, fs⟩ s'.heap -> Ex ⟨l0, F0, X, fs⟩ s.heap ⟨l', F', X, fs⟩ s'.heap -> Gs s s' -> nth l' (len σL) = some accA -> X C = none -> ¬ Low K C -> s.heap.get? C = none -> RR (.ref accA) C (.ok .next) s') :
 wpAny (model prog w) A (pyIter u) (fun it s2 => wpAny (model prog w) A (newList []) (fun acc s3 => wpAny (model prog w) A (newFunctionEnv sc env.globals clA [] env.qual none .none (some env)) (fun cenv s4 =>
  codeAny (model prog w) A (.compStart (.ListComp elt [⟨.Name x px, iter, ifs, 0⟩] sc pos) 0 it acc { cenv with scope := relabel sc env }) (RR acc cenv.locals) s4) E s3) E s2) E s := by
 refine SR.it s _ _ rfl fun o fp N P Sx W hob hlt hfp st hN hP => ?_
 have R2 := R.grow L (push_keep s.heap o)
 have O := R.out (get_size s.heap)
 obtain ⟨oI, gI⟩ := hob 0 _ st
 have RI := R2.lockOut O gI
 obtain ⟨R3, X3, e3⟩ := RI.new L { cls := .type "list", dict := none, data := .seq ([] : List Value).toArray } (.list (l := []) (Heap.get?_push_size _ rfl) .nil)
 have eI : EnvR A c ⟨l0, F0, X.add s.heap.objs.size oI, fs⟩ env := e.ofL rfl rfl
 refine wpAny_newObj_type ?_
 have hlen : len (σL ++ [AO.list []]) = Nat.succ (len σL) := by rw [len_eq, len_eq]; simp
 refine compEnv_ok (s := { s with heap := (s.heap.push o).push _ }) L R3 (eI.ex X3) (fun y i hy => by obtain ⟨a, p1, p2⟩ := hcl y i hy; exact ⟨a, p1, nth_append_left p2⟩) hk fun ρ4 h4 cenv frC kp R4 X₄ e4 => ?_
 rw [hlen] at e4
 have eσ : (σL ++ [AO.list []]) ++ (.ns [] :: ownO sc.names) = σL ++ (.list [] :: .ns [] :: ownO sc.names) := by rw [List.append_assoc]; rfl
 rw [eσ] at R4
 have XI := X3.trans X₄
 have frC' : s.heap.get? cenv.locals = none := by
  cases g : s.heap.get? cenv.locals with
  | none => rfl
  | some p => rw [push_keep _ _ _ _ (push_keep s.heap o _ _ g)] at frC; cases frC
 have kAll : ∀ b p, s.heap.get? b = some p -> h4.get? b = some p := fun b p g => kp b p (push_keep _ _ b p (push_keep _ _ b p g))
 obtain ⟨l4, F4, X4, fs4⟩ := ρ4
 have fe : fs = fs4 := XI.es.symm
 subst fe
 have xe : X4 = X.add s.heap.objs.size oI := XI.xs
 subst xe
 obtain ⟨R5, O5, gI5⟩ := R4.unlockOut O.x O.l
 have hka : nth l4 (len σL) = some (s.heap.push o).objs.size := nth_ex X₄ e3
 have XL : Ex ⟨l0, F0, X, fs⟩ s.heap ⟨l4, F4, X, fs⟩ h4 := by
  obtain ⟨t, f, ht⟩ := XI.pre
  refine ⟨⟨t, f, fun a ha => ?_⟩, XI.fr, rfl, rfl, fun b p g ι ι => kAll b p g, fun vs g => ⟨#[], by simp [kAll _ _ g]⟩⟩
  rcases ht a ha with z | z | z
  · exact .inl z
  · exact .inr (.inl z)
  · cases g : s.heap.get? a with
    | none => exact .inr (.inr rfl)
    | some p => rw [push_keep _ o a p g] at z; cases z
 have st4 : Sx 0 h4 := by
  refine W.frame _ _ _ st fun b hb p g => ?_
  rcases hfp b hb with rfl | ⟨p', hp⟩
  · rw [gI] at g; cases g; exact gI5
  · have a1 := R2.xin b p' hp
    rw [a1] at g; cases g
    exact R5.xin b _ hp
 have e5 : EnvR A ⟨Nat.succ (len σL), { sc with names := relN c sc.names }, ownC (Nat.succ (Nat.succ (len σL))) sc.names cl⟩ ⟨l4, F4, X, fs⟩ { cenv with scope := relabel sc env } := e4.ofL rfl rfl
 have hm : l4.length = Nat.add (Nat.succ (Nat.succ (len σL))) (len (ownO sc.names)) := by
  have := R5.len
  show l4.length = (len σL + 1 + 1) + len (ownO sc.names)
  rw [show l4.length = _ from this, len_eq, len_eq]
  simp only [List.length_append, List.length_cons]
  lia
 have loop : codeAny (model prog w) A (.compLoop (.ListComp elt [⟨.Name x px, iter, ifs, 0⟩] sc pos) 0 (.ref s.heap.objs.size) (.ref (s.heap.push o).objs.size) { cenv with scope := relabel sc env }) (RR (.ref (s.heap.push o).objs.size) cenv.locals) { s with heap := h4 } := by
  have O6 : Out K (blurC ⟨Nat.succ (len σL), { sc with names := relN c sc.names }, ownC (Nat.succ (Nat.succ (len σL))) sc.names cl⟩ x (σL ++ (.list [] :: .ns [] :: ownO sc.names))) ⟨l4, F4, X, fs⟩ s.heap.objs.size := by
   have R4' := R4.blurC ⟨Nat.succ (len σL), { sc with names := relN c sc.names }, ownC (Nat.succ (Nat.succ (len σL))) sc.names cl⟩ x
   exact (R4'.unlockOut O.x O.l).2.1
  refine compL_ok (C := ⟨A, ⟨Nat.succ (len σL), { sc with names := relN c sc.names }, ownC (Nat.succ (Nat.succ (len σL))) sc.names cl⟩, { cenv with scope := relabel sc env }, s.heap.objs.size, fp, N, P, Sx, ⟨l4, F4, X, fs⟩, s.heap, s, Nat.add (Nat.succ (Nat.succ (len σL))) (len (ownO sc.names))⟩) L S hr hi W hka hf
   ⟨R5.blurC _ x, O6, e5, .grow kAll, .hh _ _, rfl, fun i mi => by obtain ⟨ln, hl⟩ := R5.fr i mi; have := nth_len hl; rw [<- R5.len] at this; rw [<- hm]; exact this, hfp, st4, by rw [Nat.zero_add]; exact hN.symm,
    fun j d v h1 h2 => FR.mono XI.fr (hP j d v h1 (by rw [Nat.zero_add] at h2; exact h2)), get_size s.heap, hm, hob⟩ fun ρ' s' R' X' G' ql => ?_
  obtain ⟨l', F', X'x, fs'⟩ := ρ'
  have fe' : fs = fs' := X'.es.symm
  subst fe'
  have xe : X'x = X := X'.xs
  have ql : l' = l4 := ql
  subst xe
  subst ql
  have hC : nth l' (Nat.succ (len σL)) = some cenv.locals := e5.loc
  obtain ⟨mC, hn, hfn⟩ := (R'.ob _ _ _ hC hns).out
  obtain ⟨oC, es, ep, gC, rr⟩ := id hn
  obtain ⟨nf, nx⟩ := R'.fz _ _ _ hC hns rfl
  have nfs : Nat.succ (len σL) ∉ fs := fun mi => by
   obtain ⟨ln, hl⟩ := R.fr _ mi
   have := nth_len hl
   rw [len_eq] at this
   lia
  exact q _ _ oC mC l' F' s' (fun h g => ⟨oC, es, ep, g, rr⟩) (R'.lock hC hns rfl gC nfs) (XL.mix X') G' hka nx (R'.lo _ _ _ hC hns rfl) frC'
 exact codeAny_compStart_list loop (W.self 0 _ _ _ st4 loop)
theorem lock_len {lk : Option Nat} {σ : St} : len (lockA lk σ) = len σ := by
 cases lk with
 | none => rfl
 | some i => show len (setNth σ i .junk) = _; rw [len_eq, len_eq, setNth_length]
theorem isFnK_ok {k : ScopeKind} (h : isFnK k = true) : k = .function := by cases k <;> first | rfl | exact ff_el h
structure CmP (r : Rec) (c : Cx) (x : Str) (iter elt : Expr) (ifs : List Expr) (sc : Scope) (σ : St) (a : AV) (σ₁ : St) (p : List PyData × Option Nat) (cl : List (Str × Nat)) (σ2 : St) (z : Unit) (nl : List (Str × AV)) : Prop where
 ev : r.ev c iter σ = some (a, σ₁, true)
 it : iterA a σ₁ = some p
 clo : closA c sc.names [] = some cl
 lo : locOk sc.names sc.names = true
 fk : sc.kind = .function
 lp : compL r ⟨Nat.succ (len (lockA p.2 σ₁)), { sc with names := relN c sc.names }, ownC (Nat.succ (Nat.succ (len (lockA p.2 σ₁)))) sc.names cl⟩ x ifs elt (len (lockA p.2 σ₁)) (Nat.add (Nat.succ (Nat.succ (len (lockA p.2 σ₁)))) (len (ownO sc.names))) p.1
  (blurC ⟨Nat.succ (len (lockA p.2 σ₁)), { sc with names := relN c sc.names }, ownC (Nat.succ (Nat.succ (len (lockA p.2 σ₁)))) sc.names cl⟩ x (lockA p.2 σ₁ ++ (.list [] :: .ns [] :: ownO sc.names))) = some (z, σ2, true)
 ns : nth σ2 (Nat.succ (len (lockA p.2 σ₁))) = some (.ns nl)
theorem compA_el {c : Cx} {x : Str} {iter elt : Expr} {ifs : List Expr} {sc : Scope} {σ σ' : St} {v : AV} {D : AV -> St -> Prop} (h : compA r c x iter ifs elt sc σ = some (v, σ', true))
 (k : ∀ a σ₁ p cl σ2 z nl, CmP r c x iter elt ifs sc σ a σ₁ p cl σ2 z nl -> D (.ref (len (lockA p.2 σ₁))) (unlockA p.2 p.1 (setNth σ2 (Nat.succ (len (lockA p.2 σ₁))) .junk))) : D v σ' :=
 bn2_el h fun a σ₁ h1 h => bnd_el h fun p h2 h => bnd_el h fun cl h3 h => chk_el h fun h4 h => and_el h4 fun h4 h5 => by
  unfold compG at h
  rw [<- lock_len (lk := p.2) (σ := σ₁)] at h
  exact bn2_el h fun z σ2 h6 h => bnd_el h fun nl hn h => ok_el (P := D) h (k a σ₁ p cl σ2 z nl ⟨h1, h2, h3, h4, isFnK_ok h5, h6, nsOf_eq hn⟩)
theorem noFold {x : Expr} {iter : Expr} {env : Env} (h : notSet iter = true) : ∀ v, foldedSetIterable iter env v = pure v := by
 intro v
 cases iter <;> first | rfl | exact ff_el h
theorem comp_ok (L : Lo K) (S : Snd K prog w n r) {c : Cx} {x : Str} {px pos : Pos} {iter elt : Expr} {ifs : List Expr} {sc : Scope} {σ σ' : St} {v : AV} {ρ : Rho} {env : Env} {A : Around} {s : Shared} (hr : Room n A) (hi : Nat.ble (len ifs) 1 = true) (hs : ∀ v, foldedSetIterable iter env v = pure v)
 (h : compA r c x iter ifs elt sc σ = some (v, σ', true)) (R : Rl K σ ρ s.heap) (e : EnvR A c ρ env) : Wp K prog w VR A s ρ (eval (.ListComp elt [⟨.Name x px, iter, ifs, 0⟩] sc pos) env) v σ' := by
 intro Q E q
 refine compA_el (D := fun v σ' => Kt K VR s ρ Q v σ' -> _) h (fun a σ₁ p cl σ2 z nl H q => ?_) q
 rw [eval_ListComp]
 refine wpAny_comprehension_free (use := none) rfl hs (closure_ok e H.clo).1 H.fk (fun y hy hl => locOk_ok H.lo y hy hl) ?_
 refine S.ev H.ev R e hr _ _ fun ρ1 s₁ u R1 X1 G1 V1 => ?_
 obtain ⟨X, RL, SR, un⟩ := iter_ok (prog := prog) (w := w) hr.2.2 H.it R1 V1
 have e1 := e.ex X1
 refine comp_core (s := s₁) (RR := fun acc C => compPost (model prog w) A E none Q acc C) L S hr hi RL SR (e1.ofL rfl rfl) (closure_ok e1 H.clo).2 H.fk H.lp H.ns ?_
 intro accA C oC mC l' F' s' nsC R' X' G' hacc nx nl' fr
 have XX : Ex ρ1 s₁.heap ⟨l', F', ρ1.X, ρ1.fs⟩ s'.heap := ⟨X'.pre, X'.fr, rfl, rfl, X'.keep, X'.tab⟩
 obtain ⟨R'', O'', gC⟩ := R'.unlockOut nx nl'
 obtain ⟨t, ft, _⟩ := X'.pre
 refine ⟨mC, nsC s'.heap gC, fun h'' sb => ?_⟩
 have R4 := R''.outStep L O'' (sameBut_keep sb)
 exact q ⟨l', F', ρ1.X, ρ1.fs⟩ _ _ (un _ F' l' h'' (fun ι => True) ⟨t, ft⟩ X'.fr X R4 rfl).1 (X1.trans (XX.out fr (fun z => nl' (.inr (.inr (.inr (.inr z))))) (sameBut_keep sb))) ((G1.trans G').trans (.hh _ _)) ⟨accA, hacc, rfl⟩
theorem comp_use (L : Lo K) (S : Snd K prog w n r) {c : Cx} {x y : Str} {px py pos spos : Pos} {iter elt : Expr} {ifs : List Expr} {sc : Scope} {σ σ' σ'' : St} {v : AV} {ρ : Rho} {env : Env} {A : Around} {s : Shared} (hr : Room n A) (hi : Nat.ble (len ifs) 1 = true) (hs : ∀ v, foldedSetIterable iter env v = pure v)
 (h : compA r c x iter ifs elt sc σ = some (v, σ', true)) (hst : storeL c y v σ' = some σ'') (R : Rl K σ ρ s.heap) (e : EnvR A c ρ env) : Wp K prog w (fun ι ι ι => True) A s ρ (evalThenUse (.ListComp elt [⟨.Name x px, iter, ifs, 0⟩] sc pos) env (assign (.Name y py) env)) () σ'' := by
 intro Q E q
 refine compA_el (D := fun v σ' => storeL c y v σ' = some σ'' -> _) h (fun a σ₁ p cl σ2 z nl H hst => ?_) hst
 show wpAny _ _ (do let _ <- comprehension (.ListComp elt [⟨.Name x px, iter, ifs, 0⟩] sc pos) sc env (firstIterPos [⟨.Name x px, iter, ifs, 0⟩] pos) (newList []) (firstAsync [⟨.Name x px, iter, ifs, 0⟩]) (firstIter [⟨.Name x px, iter, ifs, 0⟩] env) (some (assign (.Name y py) env))) _ _ _
 refine wpAny_bind (wpAny_comprehension_free (use := some (assign (.Name y py) env)) rfl hs (closure_ok e H.clo).1 H.fk (fun y hy hl => locOk_ok H.lo y hy hl) ?_)
 refine S.ev H.ev R e hr _ _ fun ρ1 s₁ u R1 X1 G1 V1 => ?_
 obtain ⟨X, RL, SR, un⟩ := iter_ok (prog := prog) (w := w) hr.2.2 H.it R1 V1
 have e1 := e.ex X1
 refine comp_core (s := s₁) (RR := fun acc C => compPost (model prog w) A E (some (assign (.Name y py) env)) _ acc C) L S hr hi RL SR (e1.ofL rfl rfl) (closure_ok e1 H.clo).2 H.fk H.lp H.ns ?_
 intro accA C oC mC l' F' s' nsC R' X' G' hacc nx nl' fr
 have XX : Ex ρ1 s₁.heap ⟨l', F', ρ1.X, ρ1.fs⟩ s'.heap := ⟨X'.pre, X'.fr, rfl, rfl, X'.keep, X'.tab⟩
 obtain ⟨R'', O'', gC⟩ := R'.unlockOut nx nl'
 obtain ⟨t, ft, _⟩ := X'.pre
 have npj : C ≠ PJ := fun z => nl' (.inr (.inr (.inr (.inr z))))
 obtain ⟨R3, hO⟩ := un _ F' l' s'.heap (fun ι => True) ⟨t, ft⟩ X'.fr X R'' rfl
 have O3 := hO C O''
 have R3L := R3.lockOut O3 gC
 have e3 : EnvR A c ⟨l', F', ρ1.X.add C oC, ρ1.fs⟩ env := (e1.ex XX).ofL rfl rfl
 show wpAny _ _ (assign (.Name y py) env (.ref accA)) _ _ _
 refine wpAny_assign_Name (storeL_ok (s := s') L hst R3L e3 ⟨accA, hacc, rfl⟩ fun h5 t5 R5 X5 => ?_)
 obtain ⟨R6, O6, gC6⟩ := R5.unlockOut O3.x O3.l
 refine ⟨mC, nsC h5 gC6, fun h'' sb => ?_⟩
 have R7 := R6.outStep L O6 (sameBut_keep sb)
 have X6 : Ex ρ1 s₁.heap ⟨l', F', ρ1.X, ρ1.fs⟩ h5 := by
  refine ⟨XX.pre, XX.fr, rfl, rfl, fun b o g nb np => X5.keep b o (XX.keep b o g nb np) (fun z => ?_) np, fun vs g => ?_⟩
  · have z : b ∈ l' := z
    obtain ⟨t', ft', ht'⟩ := XX.pre
    have ft' : l' = ρ1.l ++ t' := ft'
    rw [ft'] at z
    rcases List.mem_append.mp z with z | z
    · exact nb z
    · rcases ht' b z with q1 | q1 | q1
      · exact nb q1
      · exact np q1
      · rw [q1] at g; cases g
  · obtain ⟨m1, g⟩ := XX.tab vs g
    obtain ⟨m2, g⟩ := X5.tab _ g
    exact ⟨m1 ++ m2, by rw [g, Array.append_assoc]⟩
 exact wpAny_pure (q ⟨l', F', ρ1.X, ρ1.fs⟩ _ _ R7 (X1.trans (X6.out fr npj (sameBut_keep sb))) ((G1.trans G').trans (.ht _ _ _)) trivial)
theorem sub_ops (k : Expr) (o i : Value) : ∃ ops, subscripted k false o i = operate ops (getItem o i) := by
 cases k with
 | Slice a b c p => cases c <;> exact ⟨_, rfl⟩
 | _ => exact ⟨_, rfl⟩
theorem subscr {A : Around} {E : Value -> Shared -> Prop} {s : Shared} {env : Env} {value slice : Expr} {pos : Pos} {Ty id : String} {Q : Value -> Shared -> Prop} (hl : typeLookup (.type Ty) "__getitem__" = pure (some (.builtin id)))
 (h : wpAny (model prog w) A (eval value env) (fun o s₁ => wpAny (model prog w) A (eval slice env) (fun i s2 => s2.TypeIs o Ty /\ wpAny (model prog w) A (getItem o i) Q E s2) E s₁) E s) :
 wpAny (model prog w) A (eval (.Subscript value slice pos) env) Q E s := by
 rw [arm_eval_Subscript]
 refine wpAny_bind (wpAny_mono h (fun o s₁ h1 => wpAny_bind (wpAny_holding (wpAny_mono h1 (fun i s2 h2 => wpAny_bind (wpAny_standAt ?_)) fun ι ι x => x))) fun ι ι x => x)
 have fin : ∀ ops, wpAny (model prog w) A (operate ops (getItem o i)) (fun r s3 => wpAny (model prog w) A (letTemporaryGo value o r >>= fun ι => pure r) Q E s3) E s2 := fun ops =>
  wpAny_operating (wpAny_mono h2.2 (fun r s3 h3 => wpAny_bind (wpAny_letTemporaryGo (wpAny_pure h3))) fun ι ι x => x)
 have fin2 : wpAny (model prog w) A (subscripted slice false o i) (fun r s3 => wpAny (model prog w) A (letTemporaryGo value o r >>= fun ι => pure r) Q E s3) E s2 := by
  obtain ⟨ops, e⟩ := sub_ops slice o i
  rw [e]
  exact fin ops
 refine wpAny_bind ?_
 unfold getitemInPython
 refine wpAny_bind (wpAny_specialOf h2.1 hl ?_)
 exact wpAny_pure (wpAny_bind fin2)
theorem list_gi : typeLookup (.type "list") "__getitem__" = pure (some (.builtin "list.__getitem__")) := list_getitem_lookup
theorem tuple_gi : typeLookup (.type "tuple") "__getitem__" = pure (some (.builtin "tuple.__getitem__")) := F.slot_tuple_getitem.lookup
theorem str_gi : typeLookup (.type "str") "__getitem__" = pure (some (.builtin "str.__getitem__")) := F.slot_str_getitem.lookup
theorem nth_get {α : Type} : ∀ {l : List α} {i : Nat}, nth l i = l[i]?
 | [], i => by cases i <;> rfl
 | a :: l, 0 => rfl
 | a :: l, i + 1 => by show nth l i = _; rw [nth_get]; simp
theorem FRs.get {F : Fz} {l : List PyData} {vs : List Value} (h : FRs F l vs) : ∀ {j : Nat} {d : PyData}, Mine.nth l j = some d -> ∃ v, vs[j]? = some v /\ FR F d v :=
 FRs.ind (P := fun l vs => ∀ {j : Nat} {d : PyData}, Mine.nth l j = some d -> ∃ v, vs[j]? = some v /\ FR F d v) (fun {j d} h => none_el (show (none : Option PyData) = some d from h)) (fun {d v l vs} a _ ih j e h => by
  cases j with
  | zero => exact ⟨v, rfl, Option.some.inj h ▸ a⟩
  | succ j => exact ih (j := j) h) h
theorem nthI_some {α : Type} {l : List α} {k : Int} {d : α} (h : nthI l k = some d) : ∃ j : Nat, k = (j : Int) /\ nth l j = some d := by
 cases k with
 | ofNat j => exact ⟨j, rfl, h⟩
 | negSucc j => exact none_el h
theorem seqIdx {j n : Nat} (h : j < n) : seqIndex? (j : Int) n = some j := by
 unfold seqIndex?
 have h1 : ¬ ((j : Int) < 0) := by lia
 simp [h1, h]
noncomputable def GiP (prog : Program) (w : World) (A : Around) (u i : Value) (Q E : Value -> Shared -> Prop) (s : Shared) : Prop := ∃ Ty id, typeLookup (.type Ty) "__getitem__" = pure (some (.builtin id)) /\ s.TypeIs u Ty /\ wpAny (model prog w) A (getItem u i) Q E s
section
variable {A : Around} {E : Value -> Shared -> Prop} {s : Shared} {σ σ' : St} {ρ : Rho} {x : AV} {t : Tok} {Q : Value -> Shared -> Prop}
theorem item_list {a : Addr} {vs : List Value} {m : Nat} {l : List PyData} {kk : Int} (g : s.heap.get? a = some (listOf ⟨vs⟩ m)) (W : FRs ρ.F l vs) (h : itemL l kk σ = some (x, σ', true)) (q : σ' = σ -> ∀ y tk, VR ρ x y -> Q y { s with toks := tk }) : GiP prog w A (.ref a) (.int kk t) Q E s :=
 bnd_el h fun d hn h => chk_el h fun fl h => by
  have q := ok_t (P := fun x => ∀ y tk, VR ρ x y -> Q y { s with toks := tk }) h q
  have fl := fit_ok fl
  obtain ⟨j, rfl, hj⟩ := nthI_some hn
  obtain ⟨y, hy, fy⟩ := W.get hj
  have jl := nth_len hj
  exact ⟨"list", _, list_gi, ⟨_, g, rfl⟩, wpAny_getItem_list (items := ⟨vs⟩) ⟨_, g, rfl, m, rfl⟩ (by lia) (by lia) (by simpa using hy) (q y s.toks (ofP_ok fy))⟩
theorem item_tup {a : Addr} {vs : List Value} {m : Nat} {l : List PyData} {kk : Int} (g : s.heap.get? a = some (tupOf ⟨vs⟩ m)) (W : FRs ρ.F l vs) (h : itemL l kk σ = some (x, σ', true)) (q : σ' = σ -> ∀ y tk, VR ρ x y -> Q y { s with toks := tk }) : GiP prog w A (.ref a) (.int kk t) Q E s :=
 bnd_el h fun d hn h => chk_el h fun fl h => by
  have q := ok_t (P := fun x => ∀ y tk, VR ρ x y -> Q y { s with toks := tk }) h q
  have fl := fit_ok fl
  obtain ⟨j, rfl, hj⟩ := nthI_some hn
  obtain ⟨y, hy, fy⟩ := W.get hj
  have jl := nth_len hj
  exact ⟨"tuple", _, tuple_gi, ⟨_, g, rfl⟩, getItem_tuple (items := ⟨vs⟩) ⟨_, g, rfl, m, rfl⟩ (by lia) (by lia) (seqIdx (show j < vs.length by rw [W.length]; exact jl)) (by simpa using hy) (q y s.toks (ofP_ok fy))⟩
theorem item_str {str : Str} {tu : Tok} {kk : Int} (h : (bnd (nthI str.cps.toList kk) fun d => chk (small str) (ok (.str ⟨⟨[d]⟩⟩) σ)) = some (x, σ', true)) (q : σ' = σ -> ∀ y tk, VR ρ x y -> Q y { s with toks := tk }) : GiP prog w A (.str str tu) (.int kk t) Q E s :=
 bnd_el h fun d hn h => chk_el h fun fl h => by
  have q := ok_t (P := fun x => ∀ y tk, VR ρ x y -> Q y { s with toks := tk }) h q
  have fl := small_ok fl
  obtain ⟨j, rfl, hj⟩ := nthI_some hn
  have jl := nth_len hj
  have sl : str.length = str.cps.toList.length := Array.length_toList.symm
  refine ⟨"str", _, str_gi, typeIs_str _ _ _, getItem_str (c := d) ?_ ?_ (q _ _ ⟨_, rfl⟩)⟩
  · rw [Bool.or_eq_false_iff]
    exact ⟨decide_eq_false (by lia), decide_eq_false (by lia)⟩
  · rw [show seqIndex? (j : Int) str.length = some j from seqIdx (by rw [sl]; exact jl)]
    exact Array.getElem?_toList.symm.trans (nth_get.symm.trans hj)
theorem itemA_ok {v k : AV} {u i : Value} (h : itemA v k σ = some (x, σ', true)) (R : Rl K σ ρ s.heap) (V : VR ρ v u) (I : VR ρ k i)
 (q : σ' = σ -> ∀ y tk, VR ρ x y -> Q y { s with toks := tk }) : GiP prog w A u i Q E s :=
 int_vr h I fun kk t h => by
  cases v with
  | ref i' =>
   exact V.rf fun a ha => bnd_el h fun l h1 h => by
    obtain ⟨vs, m, g, W⟩ := lsAt_ok R h1 ha
    exact item_list g W h q
  | dat d =>
   refine bnd_el h fun l h1 h2 => ?_
   have V := (show FR ρ.F d u from V).out
   cases d with
   | list l' =>
    obtain ⟨a, vs, m, e, g, W⟩ := V
    rw [e]
    exact item_list (R.fin _ _ g) (Option.some.inj h1 ▸ W) h2 q
   | tuple l' =>
    obtain ⟨a, vs, m, e, g, W⟩ := V
    rw [e]
    exact item_tup (R.fin _ _ g) (Option.some.inj h1 ▸ W) h2 q
   | _ => exact none_el h1
  | str x => exact V.st fun tu => item_str h q
  | _ => exact none_el h
end
theorem FRs.rev {F : Fz} {l acc : List PyData} {vs accV : List Value} (h : FRs F l vs) (k : FRs F acc accV) : FRs F (revP l acc) (vs.reverse ++ accV) :=
 FRs.ind (P := fun l vs => ∀ acc accV, FRs F acc accV -> FRs F (revP l acc) (vs.reverse ++ accV)) (fun ι ι k => k) (fun a ι ih acc accV k => by
  rw [List.reverse_cons, List.append_assoc]
  exact ih _ _ (.cons a k)) h acc accV k
theorem FRs.take {F : Fz} {l : List PyData} {vs : List Value} (k : Nat) (h : FRs F l vs) : FRs F (takeP k l) (vs.take k) :=
 FRs.ind (P := fun l vs => ∀ k, FRs F (takeP k l) (vs.take k)) (fun k => by cases k <;> exact .nil) (fun a ι ih k => by
  cases k with
  | zero => exact .nil
  | succ k => exact .cons a (ih k)) h k
@[elab_as_elim] theorem slcE_el {e : Expr} {q : Option Expr × Option Expr × Option Expr} {C : Expr -> Prop} (h : slcE e = some q) (k : ∀ p, C (.Slice q.1 q.2.1 q.2.2 p)) : C e :=
 onC_el h fun hb => Expr.Slice.elim (motive_1 := fun e => slcE e = some q -> C e) e hb (fun a b c p h => som_e2 (q := fun q => (∀ p, C (.Slice q.1 q.2.1 q.2.2 p)) -> C (.Slice a b c p)) h (fun k => k p) k) h
@[elab_as_elim] theorem natE_el {e : Expr} {n : Nat} {C : Expr -> Prop} (h : bnd (bnd (conE e) conI) natI = some n) (k : ∀ c p, C (.Constant (.int (.ofNat n)) c p)) : C e :=
 bnd_el h fun i h h3 => bnd_el h fun d h1 h2 => conE_el h1 fun c p => by rw [conI_inv h2, natI_inv h3]; exact k c p
@[elab_as_elim] theorem minus1_el {e : Expr} {C : Expr -> Prop} (h : minus1 e = true) (k : ∀ c p p2, C (.UnaryOp .USub (.Constant (.int (.ofNat 1)) c p) p2)) : C e :=
 isSome_el h fun u h => bnd_el h fun d h1 h => onC_el h1 fun hb => Expr.UnaryOp.elim (motive_1 := fun e => uopE e = some d -> C e) e hb (fun op x p2 h1 => som_e2 (q := fun d => gd (isUSub d.1) (bnd (bnd (bnd (conE d.2) conI) natI) fun n => gd (Nat.beq n 1) (some ())) = some u -> C (.UnaryOp op x p2)) h1 (fun h => gd_el h fun h1 h => bnd_el h fun n h2 h => gd_el h fun h3 ι => by
  rw [show op = .USub from isUSub_inv h1]
  exact natE_el (C := fun x => C (.UnaryOp .USub x p2)) h2 fun c p => Nat.eq_of_beq_eq_true h3 ▸ k c p p2) h) h1
noncomputable def SlQ (s : Shared) (Q : Value -> Shared -> Prop) (sk : SlK) : Prop := ∀ tk vl vu vs lo hi st, IsPart vl lo -> IsPart vu hi -> IsPart vs st -> st ≠ some 0 -> (∀ (F : Fz) (l : List PyData) (us : List Value), FRs F l us -> ∃ ws, slicePick ⟨us⟩ lo hi st = ⟨ws⟩ /\ FRs F (sliceL sk l) ws) ->
 Q (.ref s.heap.objs.size) { s with heap := s.heap.push { cls := .type "slice", data := .fields #[vl, vu, vs] }, toks := tk }
theorem sliceK_ok {A : Around} {E : Value -> Shared -> Prop} {s : Shared} {env : Env} {k : Expr} {sk : SlK} {Q : Value -> Shared -> Prop} (h : sliceK k = some sk) (q : SlQ s Q sk) : wpAny (model prog w) A (eval k env) Q E s :=
 bnd_el h fun d h1 h => slcE_el (C := fun k => wpAny (model prog w) A (eval k env) Q E s) h1 fun p => gd_el h fun h0 h => by
  obtain ⟨a, b, c⟩ := d
  rw [isNone_inv h0]
  refine wpAny_Slice ?_
  rw [evalPart_none]
  cases b with
  | none =>
   rw [evalPart_none]
   cases c with
   | none =>
    have q := some_q h q
    rw [evalPart_none]
    exact wpAny_pure (wpAny_pure (wpAny_pure (q s.toks _ _ _ none none none .none .none .none nofun fun F l us W => ⟨us, slicePick_all _, W⟩)))
   | some e =>
    refine gd_el h fun h2 h => ?_
    have q := some_q h q
    rw [evalPart_some]
    exact minus1_el h2 fun ι ι ι => wpAny_pure (wpAny_pure (wpAny_UnaryOp (wpAny_Constant_int (P.neg_int (q _ _ _ _ none none (some (-1)) .none .none (.int _ _) nofun fun F l us W => ⟨us.reverse, krv_pick _, by
     have := W.rev (acc := []) .nil
     rw [List.append_nil] at this; exact this⟩)))))
  | some e =>
   refine gd_el h fun h0 h => bnd_el h fun n h2 h => ?_
   have q := some_q h q
   dsimp only at h0
   rw [isNone_inv h0, evalPart_some, evalPart_none]
   exact natE_el h2 fun ι ι => wpAny_pure (wpAny_Constant_int (wpAny_pure (q _ _ _ _ none (some (n : Int)) none .none (.int _ _) .none nofun fun F l us W => ⟨us.take n, slicePick_upto' _ n, W.take n⟩)))
theorem slice_ok (L : Lo K) (S : Snd K prog w n r) {c : Cx} {o k : Expr} {pos : Pos} {sk : SlK} {v : AV} {l : List PyData} {σ σ₁ : St} {ρ : Rho} {A : Around} {env : Env} {s : Shared} (hr : Room n A) (hk : sliceK k = some sk) (h1 : r.ev c o σ = some (v, σ₁, true)) (h2 : listOfV v σ₁ = some l) (fl : fit l = true) (R : Rl K σ ρ s.heap) (e : EnvR A c ρ env) :
 Wp K prog w VR A s ρ (eval (.Subscript o k pos) env) (.ref (len σ₁)) (σ₁ ++ [.list (sliceL sk l)]) := by
 intro Q E q
 refine subscr list_gi (S.ev h1 R e hr _ _ fun ρ1 s₁ u R1 X1 G1 V1 => ?_)
 obtain ⟨a, vs, m, rfl, g, W⟩ := listOfV_ok R1 h2 V1
 have fl := fit_ok fl
 refine sliceK_ok (s := s₁) hk fun tk vl vu vs' lo hi st p1 p2 p3 p4 p5 => ?_
 have g' := push_keep s₁.heap { cls := .type "slice", data := .fields #[vl, vu, vs'] } _ _ g
 refine ⟨⟨_, g', rfl⟩, ?_⟩
 obtain ⟨ws, e1, W2⟩ := p5 _ l vs W
 refine wpAny_getItem_list_slice (items := ⟨vs⟩) ⟨_, g', rfl, m, rfl⟩ (Heap.IsSliceOf.new ..) p1 p2 p3 p4 ?_ (by rw [size_mk, W.length, sizeLine_eq]; exact le_c ‹_› rfl)
 rw [e1]
 have R2 := R1.grow L (push_keep s₁.heap { cls := .type "slice", data := .fields #[vl, vu, vs'] })
 obtain ⟨R3, X3, e3⟩ := R2.new L { cls := .type "list", data := .seq ⟨ws⟩ } (.list (l := sliceL sk l) (Heap.get?_push_size _ rfl) W2)
 exact q _ _ _ R3 (X1.trans ((Ex.grow (push_keep _ _)).trans X3)) (G1.trans (.ht _ _ _)) ⟨_, e3, rfl⟩
theorem sub_ok (S : Snd K prog w n r) {c : Cx} {o k : Expr} {pos : Pos} {a b v : AV} {σ σ₁ σ2 σ' : St} {ρ : Rho} {A : Around} {env : Env} {s : Shared} (hr : Room n A) (h1 : r.ev c o σ = some (a, σ₁, true)) (h2 : r.ev c k σ₁ = some (b, σ2, true)) (h3 : itemA a b σ2 = some (v, σ', true)) (R : Rl K σ ρ s.heap) (e : EnvR A c ρ env) :
 Wp K prog w VR A s ρ (eval (.Subscript o k pos) env) v σ' := by
 intro Q E q
 rw [arm_eval_Subscript]
 refine wpAny_bind (S.ev h1 R e hr _ _ fun ρ1 s₁ u R1 X1 G1 V1 => wpAny_bind (wpAny_holding ?_))
 refine S.ev (s := s₁) h2 R1 (e.ex X1) hr _ _ fun ρ2 s2 i R2 X2 G2 V2 => wpAny_bind (wpAny_standAt ?_)
 obtain ⟨Ty, id, g1, g2, g3⟩ := itemA_ok (prog := prog) (w := w) (A := A) (E := E) (s := s2) (Q := Q) h3 R2 (V1.ex X2) V2 fun hs y tk hy => q ρ2 _ y (hs ▸ R2) (X1.trans X2) ((G1.trans G2).trans (.tt _ _)) hy
 have fin : ∀ ops, wpAny (model prog w) A (operate ops (getItem u i)) (fun r s3 => wpAny (model prog w) A (letTemporaryGo o u r >>= fun ι => pure r) Q E s3) E s2 := fun ops =>
  wpAny_operating (wpAny_mono g3 (fun r s3 h₃ => wpAny_bind (wpAny_letTemporaryGo (wpAny_pure h₃))) fun ι ι x => x)
 have fin2 : wpAny (model prog w) A (subscripted k false u i) (fun r s3 => wpAny (model prog w) A (letTemporaryGo o u r >>= fun ι => pure r) Q E s3) E s2 := by
  obtain ⟨ops, e⟩ := sub_ops k u i
  rw [e]
  exact fin ops
 refine wpAny_bind ?_
 unfold getitemInPython
 refine wpAny_bind (wpAny_specialOf g2 g1 ?_)
 exact wpAny_pure (wpAny_bind fin2)
theorem takeN_eq : ∀ (n : Nat) (l : List Nat), takeN n l = l.take n
 | 0, _ => by rw [List.take_zero]; unfold takeN; rfl
 | _ + 1, [] => rfl
 | n + 1, x :: l => congrArg (x :: ·) (takeN_eq n l)
theorem dropN_eq : ∀ (n : Nat) (l : List Nat), dropN n l = l.drop n
 | 0, _ => by unfold dropN; rfl
 | _ + 1, [] => rfl
 | n + 1, x :: l => dropN_eq n l
theorem picked_eq (i j : Nat) (t1 t2 : Tok) (x : Str) : slicePicked x (some ((i : Int), t1)) (some ((j : Int), t2)) none = (List.range (min j x.cps.size - min i x.cps.size)).map (min i x.cps.size + ·) := by
 rw [<- sliceRange_one]
 unfold slicePicked Builtin.Str.strSliceIndices Str.length
 have h : ∀ k : Nat, max (0 : Int) (min (if (k : Int) < 0 then (k : Int) + (x.cps.size : Int) else (k : Int)) (x.cps.size : Int)) = ((min k x.cps.size : Nat) : Int) := fun k => by
  rw [if_neg (Int.not_lt.mpr (Int.natCast_nonneg k))]; lia
 simp only [Option.map_none, Option.map_some, Option.getD_none, gt_iff_lt, Int.zero_lt_one, if_true, h]
theorem cut_eq (i j : Nat) (x : Str) : ((List.range (min j x.cps.size - min i x.cps.size)).map (min i x.cps.size + ·)).filterMap (x.cps[·]?) = takeN (j - i) (dropN i x.cps.toList) := by
 rw [pick_run, takeN_eq, dropN_eq]
 have hl : x.cps.toList.length = x.cps.size := by simp
 rcases Nat.le_total i x.cps.size with h | h
 · rw [Nat.min_eq_left h]
   rcases Nat.le_total j x.cps.size with h2 | h2
   · rw [Nat.min_eq_left h2]
   · rw [Nat.min_eq_right h2, List.take_of_length_le (by rw [List.length_drop, hl]; exact Nat.le_refl _), List.take_of_length_le (by rw [List.length_drop, hl]; exact Nat.sub_le_sub_right h2 i)]
 · rw [Nat.min_eq_right h, List.drop_of_length_le (Nat.le_of_eq hl), List.drop_of_length_le (hl ▸ h), List.take_nil, List.take_nil]
set_option tactic.hygienic true in
theorem slice_made {i j : Nat} {t t1 t2 : Tok} {x : Str} {s : Shared} {Q : Value -> Shared -> Prop} (sm : x.length <= sizeLine) (q : ∀ t tk, Q (.str (cutStr i j x) t) { s with toks := tk }) : (sliceMade x t (some ((i : Int), t1)) (some ((j : Int), t2)) none).post Q s := by
 unfold sliceMade
 rw [picked_eq]
 have e : (⟨(((List.range (min j x.cps.size - min i x.cps.size)).map (min i x.cps.size + ·)).filterMap (x.cps[·]?)).toArray⟩ : Str) = cutStr i j x := by
  rw [cut_eq]; rfl
 split
 · rename_i h
   have h : min j x.cps.size - min i x.cps.size = x.cps.size := by
    rw [Bool.and_eq_true] at h
    have := h.2
    rw [List.length_map, List.length_range] at this
    exact beq_iff_eq.mp this
   have : cutStr i j x = x := by
    rw [<- e, pick_run, h]
    have hl : x.cps.toList.length = x.cps.size := by simp
    rcases Nat.eq_zero_or_pos x.cps.size with z | z
    · cases x with | mk c =>
      have : c = #[] := Array.eq_empty_of_size_eq_zero z
      subst this; rfl
    · rw [show min i x.cps.size = 0 from Nat.eq_zero_of_not_pos fun p => Nat.lt_irrefl _ (Nat.lt_of_le_of_lt (Nat.le_trans (Nat.le_of_eq h.symm) (Nat.sub_le_sub_right (Nat.min_le_right j _) _)) (Nat.sub_lt z p)), List.drop_zero, List.take_of_length_le (Nat.le_of_eq hl)]
   have qq := q t s.toks
   rw [this] at qq; exact qq
 · rw [e]
   refine ⟨?_, q _ _⟩
   unfold cutStr Str.length
   rw [takeN_eq, dropN_eq]
   exact Nat.le_trans (List.length_take_le' _ _) (Nat.le_trans (by rw [List.length_drop]; exact Nat.sub_le _ _) (Nat.le_trans (Nat.le_of_eq Array.length_toList) sm))
theorem sliceS_ok (L : Lo K) (S : Snd K prog w n r) {c : Cx} {o k : Expr} {pos : Pos} {ab : Expr × Expr} {x : Str} {i j : Nat} {σ σ₁ σ2 σ3 : St} {ρ : Rho} {A : Around} {env : Env} {s : Shared} (hr : Room n A) (hk : sliceAB k = some ab) (h1 : r.ev c o σ = some (.str x, σ₁, true)) (h2 : r.ev c ab.1 σ₁ = some (.int (.ofNat i), σ2, true)) (h3 : r.ev c ab.2 σ2 = some (.int (.ofNat j), σ3, true)) (sm : small x = true) (R : Rl K σ ρ s.heap) (e : EnvR A c ρ env) :
 Wp K prog w VR A s ρ (eval (.Subscript o k pos) env) (.str (cutStr i j x)) σ3 := by
 intro Q E q
 have sm := small_ok sm
 refine bnd_el hk fun d hd hk => bnd_el hk fun a ha hk => bnd_el hk fun b hb hk => gd_el hk fun hn hk => ?_
 · obtain rfl := Option.some.inj hk
   refine slcE_el (C := fun k => wpAny (model prog w) A (eval (.Subscript o k pos) env) Q E s) hd fun p => subscr str_gi (S.ev h1 R e hr _ _ fun ρ1 s₁ u R1 X1 G1 V1 => ?_)
   obtain ⟨t, rfl⟩ := V1
   refine wpAny_Slice ?_
   rw [ha, hb, isNone_inv hn]
   rw [evalPart_some, evalPart_some, evalPart_none]
   refine S.ev (s := s₁) h2 R1 (e.ex X1) hr _ _ fun ρ2 s2 u R2 X2 G2 V2 => ?_
   obtain ⟨t2, rfl⟩ := V2
   refine S.ev (s := s2) h3 R2 (e.ex (X1.trans X2)) hr _ _ fun ρ3 s3 u R3 X3 G3 V3 => ?_
   obtain ⟨t3, rfl⟩ := V3
   refine wpAny_pure ⟨typeIs_str _ x t, wpAny_getItem_str_slice (l := some ((i : Int), t2)) (u := some ((j : Int), t3)) (st := none) ⟨_, Heap.get?_push_size _ rfl, rfl, rfl⟩ rfl (slice_made (by rw [sizeLine_eq]; exact le_c ‹_› rfl) fun t' tk => ?_)⟩
   have R4 := R3.grow L (push_keep s3.heap { cls := .type "slice", data := .fields #[.int (i : Int) t2, .int (j : Int) t3, .none] })
   exact q _ _ _ R4 (((X1.trans X2).trans X3).trans (Ex.grow (push_keep _ _))) (((G1.trans G2).trans G3).trans (.ht _ _ _)) ⟨_, rfl⟩
theorem inst_any {σ : St} {ρ : Rho} {h : Heap} {i d : Nat} {C : Addr} {a : Addr} {l : List (Str × AV)} (R : Rl K σ ρ h) (hi : nth σ i = some (.inst C d)) (ha : nth ρ.l i = some a) (hd : dictOfA σ d = some l) :
 ∃ da es n, InstAt h a (instObj C da) C (some (dictOf es n)) := by
 obtain ⟨da, e, f⟩ := (R.ob i a _ ha hi).out
 obtain ⟨es, n, g, D, _⟩ := (R.ob d da _ e (dictOfA_eq hd)).out
 exact ⟨da, es, n, ⟨f, rfl, rfl, g⟩⟩
theorem mt_el (hT : TOk K T) {x : Str} {β : Type} {f : Addr -> Option β} {C : Addr} {b : β} {D : Prop} (h : bnd (bnd (atOf T C x) mtA) f = some b) (k : ∀ a, ClsOk K C -> findIn K (.ref C) x = some (some (.ref a)) -> isFn K (.ref a) = true -> f a = some b -> D) : D :=
 bnd_el h fun a h1 h => bnd_el h1 fun y h1 h2 => bnd_el (show bnd (nlook C T.ats) (look x) = some y from h1) fun l hl hx => by
  have A := (hT.at_ C l hl).2 _ _ hx
  rw [mtA_inv h2] at A
  cases A with
  | meth f1 f2 f3 => exact k a (hT.at_ C l hl).1 f1 f2 h
noncomputable def DnQ (K : Frag) (s : Shared) (ρ : Rho) (Q : Unit -> Shared -> Prop) (σ' : St) : Prop := ∀ ρ' s', Rl K σ' ρ' s'.heap -> Ex ρ s.heap ρ' s'.heap -> Gs s s' -> Q () s'
theorem delItem_fn {A : Around} {E : Value -> Shared -> Prop} {s : Shared} {x C f : Addr} {ox : Obj} {od : Option Obj} {i : Value} {Q : Unit -> Shared -> Prop} (X : K.In s.heap) (I : InstAt s.heap x ox C od) (hq : noSeq K C = true) (hs : findIn K (.ref C) "__delitem__" = some (some (.ref f))) (hf : isFn K (.ref f) = true)
 (h : wpAny (model prog w) A (call (.ref f) [.ref x, i]) (fun ι s' => Q () s') E s) : wpAny (model prog w) A (delItem (.ref x) i) Q E s := by
 unfold delItem sequenceKey
 refine wpAny_holding (wpAny_bind (wpAny_bind (I.type.here ?_)))
 refine wpAny_bind ((anyM_none X hq).here ?_)
 rw [if_pos (show (!false) = true from rfl)]
 exact wpAny_pure (wpAny_bind (special_fn X I hs (beq_iff_eq.mp hf) (wpAny_mono h (fun ι ι z => wpAny_pure z) fun ι ι z => z)))
theorem setItem_fn {A : Around} {E : Value -> Shared -> Prop} {s : Shared} {x C f : Addr} {ox : Obj} {od : Option Obj} {i v : Value} {Q : Unit -> Shared -> Prop} (X : K.In s.heap) (I : InstAt s.heap x ox C od) (hq : noSeq K C = true) (hs : findIn K (.ref C) "__setitem__" = some (some (.ref f))) (hf : isFn K (.ref f) = true)
 (h : wpAny (model prog w) A (call (.ref f) [.ref x, i, v]) (fun ι s' => Q () s') E s) : wpAny (model prog w) A (setItem (.ref x) i v) Q E s := by
 unfold setItem sequenceKey
 refine wpAny_holding (wpAny_bind (wpAny_bind (I.type.here ?_)))
 refine wpAny_bind ((anyM_none X hq).here ?_)
 rw [if_pos (show (!false) = true from rfl)]
 exact wpAny_pure (wpAny_bind (special_fn X I hs (beq_iff_eq.mp hf) (wpAny_mono h (fun ι ι z => wpAny_pure z) fun ι ι z => z)))
theorem FRs.set {F : Fz} {l : List PyData} {vs : List Value} (j : Nat) {d : PyData} {u : Value} (h : FRs F l vs) (f : FR F d u) : FRs F (setNth l j d) (vs.set j u) :=
 FRs.ind (P := fun l vs => ∀ j, FRs F (setNth l j d) (vs.set j u)) (fun j => by cases j <;> exact .nil) (fun a b ih j => by
  cases j with
  | zero => exact .cons f b
  | succ j => exact .cons a (ih j)) h j
theorem setI_el {l l' : List PyData} {k : Int} {d : PyData} {C : Int -> List PyData -> Prop} (h : setI l k d = some l') (q : ∀ b, b < l.length -> C (.ofNat b) (setNth l b d)) : C k l' := by
 cases k with
 | negSucc b => exact none_el h
 | ofNat b =>
  unfold setI at h
  dsimp only at h
  cases ho : nth l b with
  | none => rw [ho] at h; exact none_el h
  | some o => rw [ho] at h; exact Option.some.inj h ▸ q b (nth_len ho)
theorem setI1_ok (L : Lo K) {A : Around} {E : Value -> Shared -> Prop} {s : Shared} {σ σ' : St} {ρ : Rho} {j : Nat} {a : Addr} {k x : AV} {i y : Value} {z : Unit} {Q : Unit -> Shared -> Prop} (ha : nth ρ.l j = some a) (h : setI1 j k x σ = some (z, σ', true)) (R : Rl K σ ρ s.heap) (I : VR ρ k i) (Y : VR ρ x y) (q : DnQ K s ρ Q σ') : wpAny (model prog w) A (setItem (.ref a) i y) Q E s :=
 int_vr h I fun kk t h => bnd_el h fun p h1 h => bnd_el h fun l2 h2 h => bnd_el h fun l' h3 h => chk_el h fun fl h => by
  have q := ok_u h q
  obtain ⟨ρ1, R1, X1, f1⟩ := frz_ok R h1 Y
  have fl := fit_ok fl
  have ha := nth_ex X1 ha
  have hi := lsO_inv h2
  obtain ⟨vs, m, g, W⟩ := (R1.ob j a _ ha hi).out
  refine setI_el (C := fun kk l' => DnQ K s ρ Q (setNth p.2 j (.list l')) -> wpAny (model prog w) A (setItem (.ref a) (.int kk t) y) Q E s) h3 (fun b lb q => ?_) q
  have bl : b < vs.length := by rw [W.length]; exact lb
  refine ki_setAt g (Int.natCast_nonneg b) (by show (b : Int) < _; lia) (Int.ofNat_lt.mpr bl) ?_
  have U := IsL.update g (fun xs => xs.setIfInBounds b y)
  have sb : Heap.SameBut a s.heap (s.heap.update a (Obj.mapSeq fun xs => xs.setIfInBounds b y)) := Heap.SameBut.update ..
  rw [show (⟨vs⟩ : Array Value).setIfInBounds b y = ⟨vs.set b y⟩ by simp] at U
  exact q ρ1 _ (R1.set L ha hi rfl (sameBut_keep sb) (.list U (W.set b f1)) nofun) (X1.trans (.set ha (R1.npj ha hi rfl) (sameBut_keep sb))) (.hh _ _)
theorem setSub_ok (hT : TOk K T) (L : Lo K) (S : Snd K prog w n r) {A : Around} {E : Value -> Shared -> Prop} {s : Shared} {σ σ' : St} {ρ : Rho} {v k x : AV} {u i y : Value} {z : Unit} {Q : Unit -> Shared -> Prop} (fa : FrA A ρ) (hr : Room n A) (h : setSubA T r v k x σ = some (z, σ', true)) (R : Rl K σ ρ s.heap) (V : VR ρ v u) (I : VR ρ k i) (Y : VR ρ x y)
 (q : DnQ K s ρ Q σ') : wpAny (model prog w) A (setItem u i y) Q E s :=
 ref_vr h V fun j a ha h => by
  have hh : ∀ {o}, nth σ j = o -> setO1 T r j k x σ o = some (z, σ', true) -> wpAny (model prog w) A (setItem (.ref a) i y) Q E s := fun {o} hi h => by
   cases o with
   | none => exact none_el h
   | some o => cases o with
    | inst C d =>
     exact bnd_el h fun ld hd h => mt_el hT h fun f O f1 f2 h => bn2_el h fun x' σ₁ h2 h => by
      have q := ok_u h q
      obtain ⟨da, es, m, IA⟩ := inst_any R hi ha hd
      exact setItem_fn R.gd.kin IA O.sq f1 f2 (call_of_cd (S.call h2 R (.cons ⟨a, ha, rfl⟩ (.cons I (.cons Y .nil))) .nil fa hr) fun ρ' s' ι R' X' G' ι => q ρ' s' R' X' G')
    | list l => exact setI1_ok L ha h R I Y q
    | _ => exact none_el h
  exact hh rfl h
theorem delA_ok (hT : TOk K T) (L : Lo K) (S : Snd K prog w n r) {A : Around} {E : Value -> Shared -> Prop} {s : Shared} {σ σ' : St} {ρ : Rho} {v k : AV} {u i : Value} {z : Unit} {Q : Unit -> Shared -> Prop} (fa : FrA A ρ) (hr : Room n A) (h : delA T r v k σ = some (z, σ', true)) (R : Rl K σ ρ s.heap) (V : VR ρ v u) (I : VR ρ k i)
 (q : DnQ K s ρ Q σ') : wpAny (model prog w) A (delItem u i) Q E s :=
 ref_vr h V fun j a ha h => bnd_el h fun p h0 h => bnd_el h fun ld hd h => mt_el hT h fun f O f1 f2 h => bn2_el h fun x' σ₁ h2 h => by
  have q := ok_u h q
  obtain ⟨da, es, m, IA⟩ := inst_any R (instOf_eq h0) ha hd
  exact delItem_fn R.gd.kin IA O.sq f1 f2 (call_of_cd (S.call h2 R (.cons ⟨a, ha, rfl⟩ (.cons I .nil)) .nil fa hr) fun ρ' s' ι R' X' G' ι => q ρ' s' R' X' G')
section
variable {A : Around} {E : Value -> Shared -> Prop} {s : Shared} {sl : Addr}
theorem sub_slice {Q : Option Int -> Shared -> Prop} (hs : s.TypeIs (.ref sl) "slice") (q : Q none s) : wpAny (model prog w) A (Builtin.List.listSubscript? (.ref sl)) Q E s := by
 unfold Builtin.List.listSubscript?
 refine wpAny_bind (wpAny_specialOf hs slice_no_index ?_)
 simp only [Option.isNone_none, if_true]
 exact wpAny_pure q
theorem parts_none {Q : Value × Value × Value -> Shared -> Prop} (hs : s.heap.IsSliceOf sl .none .none .none) (q : Q (.none, .none, .none) s) : wpAny (model prog w) A (Builtin.List.listSliceParts (.ref sl)) Q E s := by
 obtain ⟨os, hos, hcs, hds⟩ := id hs
 rw [listSliceParts_eq]
 refine wpAny_bind (wpAny_field hos hds (x := .none) rfl (wpAny_bind (wpAny_listPart .none ?_)))
 rw [if_neg (by decide)]
 exact wpAny_bind (wpAny_field hos hds (x := .none) rfl (wpAny_bind (wpAny_listPart .none (wpAny_bind (wpAny_field hos hds (x := .none) rfl (wpAny_bind (wpAny_listPart .none (wpAny_pure q))))))))
theorem all_list {Q : Array Value -> Shared -> Prop} {b : Addr} {items : Array Value} {m : Nat} {msg : String} (g : s.heap.get? b = some (listOf items m)) (q : Q items s) : wpAny (model prog w) A (Builtin.List.listAllItems (.ref b) msg) Q E s := by
 unfold Builtin.List.listAllItems Builtin.List.listItems
 refine wpAny_bind (wpAny_typeOf ⟨_, g, rfl⟩ ?_)
 rw [if_pos (by decide)]
 exact wpAny_bind (wpAny_seqItems g rfl (wpAny_pure q))
end
theorem setSlice_at {A : Around} {E : Value -> Shared -> Prop} {s : Shared} {l sl b : Addr} {items items2 : Array Value} {m m2 : Nat} {Q : Unit -> Shared -> Prop} (g : s.heap.get? l = some (listOf items m)) (g2 : s.heap.get? b = some (listOf items2 m2)) (hne : l ≠ b) (hs : s.heap.IsSliceOf sl .none .none .none) (hz : items.size + items2.size <= sizeLine)
 (h : Q () { s with heap := s.heap.update l (Obj.mapSeq fun xs => xs.extract 0 0 ++ items2 ++ xs.extract items.size xs.size) }) : wpAny (model prog w) A (setItem (.ref l) (.ref sl) (.ref b)) Q E s := by
 have hl : s.heap.IsList l items := ⟨_, g, rfl, m, rfl⟩
 obtain ⟨os, hos, hcs, hds⟩ := id hs
 have hTs : s.TypeIs (.ref sl) "slice" := ⟨os, hos, hcs⟩
 have hTb : s.TypeIs (.ref b) "list" := ⟨_, g2, rfl⟩
 unfold setItem
 refine wpAny_holding ?_
 refine wpAny_bind (wpAny_sequenceKey hl.typeIs (by decide) ?_)
 refine wpAny_bind (wpAny_callSpecial?_slot (name := Zs "__setitem__") hl.typeIs slot_list_setitem
  (wpAny_call_entry slot_list_setitem hl.typeIs entry_list_setitem ?_ (args_list_setitem _ _ _)))
 show wpAny _ _ (Builtin.List.listSubscript? (.ref sl) >>= _) _ _ s
 refine wpAny_bind (sub_slice hTs ?_)
 show wpAny _ _ (typeOf (.ref sl) >>= _) _ _ s
 refine wpAny_bind (wpAny_typeOf hTs ?_)
 rw [if_neg (by decide)]
 refine wpAny_bind (parts_none hs ?_)
 have ns : Builtin.List.listSameRef (.ref l) (.ref b) = false := by
  show (l == b) = false
  exact beq_eq_false_iff_ne.mpr hne
 have nl : Builtin.List.listTooLong (items.size + items2.size) = false := decide_eq_false (by lia)
 rw [ns]
 dsimp only
 rw [if_neg Bool.false_ne_true]
 refine wpAny_bind (all_list g2 ?_)
 unfold Builtin.List.listItems
 refine wpAny_bind (wpAny_bind (wpAny_seqItems g rfl (wpAny_pure ?_)))
 refine wpAny_bind (wpAny_of_eq (sliceIndices_raw none none none items.size (by simp)) ?_)
 have sb : sliceBounds none none none items.size = (0, (items.size : Int), 1) := by unfold sliceBounds; simp
 rw [sb, nl]
 have mx : (max (0 : Int) (items.size : Int)).toNat = items.size := by lia
 dsimp only
 rw [if_pos (by decide), if_neg Bool.false_ne_true, mx]
 refine wpAny_bind (wpAny_rule ?_)
 show wpAny _ _ (updateSeq l (fun xs => xs.extract 0 0 ++ items2 ++ xs.extract items.size xs.size) >>= _) _ _ s
 have hz' : (items.extract 0 0 ++ items2 ++ items.extract items.size items.size).size <= sizeLine + 1 := by simp; lia
 refine wpAny_bind (wpAny_updateSeq g rfl (hz := by exact le_d ‹_› rfl) (_hz' := hz') ?_)
 exact wpAny_bind (wpAny_letGo (wpAny_pure ⟨_, rfl, wpAny_pure h⟩))
theorem setAll_ok (L : Lo K) {A : Around} {E : Value -> Shared -> Prop} {s : Shared} {σ σ' : St} {ρ : Rho} {v x : AV} {u y : Value} {sl : Addr} {z : Unit} {Q : Unit -> Shared -> Prop} (h : setAllA v x σ = some (z, σ', true)) (R : Rl K σ ρ s.heap) (V : VR ρ v u) (Y : VR ρ x y) (hs : s.heap.IsSliceOf sl .none .none .none)
 (q : ∀ h', Rl K σ' ρ h' -> Ex ρ s.heap ρ h' -> Q () { s with heap := h' }) : wpAny (model prog w) A (setItem u (.ref sl) y) Q E s :=
 ref_vr h V fun i a ha h => ref_vr h Y fun j b hb h => bnd_el h fun l hi h => bnd_el h fun k hj h => gd_el h fun hn h => chk_el h fun f1 h => chk_el h fun f2 h => by
  have q := ok_u (q := fun σ' => ∀ h', Rl K σ' ρ h' -> Ex ρ s.heap ρ h' -> Q () { s with heap := h' }) h q
  have f1 := fit_ok f1
  have f2 := fit_ok f2
  have hi := lsO_inv hi
  have hj := lsO_inv hj
  have ne : a ≠ b := fun e => ff_el ((not_el hn).symm.trans (by rw [R.nd _ _ _ _ _ ha (e ▸ hb) hi hj rfl rfl, Nat.beq_refl]))
  obtain ⟨vs, m, g, W⟩ := (R.ob i a _ ha hi).out
  obtain ⟨us, m2, g2, W2⟩ := (R.ob j b _ hb hj).out
  refine setSlice_at g g2 ne hs (by rw [size_mk, size_mk, W.length, W2.length, sizeLine_eq]; exact le_2 ‹_› ‹_› rfl) ?_
  have U := IsL.update g (fun xs => xs.extract 0 0 ++ ⟨us⟩ ++ xs.extract (⟨vs⟩ : Array Value).size xs.size)
  rw [show (⟨vs⟩ : Array Value).extract 0 0 ++ ⟨us⟩ ++ (⟨vs⟩ : Array Value).extract (⟨vs⟩ : Array Value).size (⟨vs⟩ : Array Value).size = ⟨us⟩ by simp] at U
  have sb : Heap.SameBut a s.heap (s.heap.update a (Obj.mapSeq fun xs => xs.extract 0 0 ++ ⟨us⟩ ++ xs.extract (⟨vs⟩ : Array Value).size xs.size)) := Heap.SameBut.update ..
  exact q _ (R.set L ha hi rfl (sameBut_keep sb) (.list U W2) nofun) (.set ha (R.npj ha hi rfl) (sameBut_keep sb))
noncomputable def CallOk (K : Frag) (prog : Program) (w : World) (A : Around) (f : Value) (us : List Value) (v : AV) (σ' : St) (ρ : Rho) (s : Shared) : Prop :=
 Wp K prog w VR A s ρ (call f us) v σ'
theorem strN_ok {a b : String} (h : leq (strN a) (strN b) = true) : a = b := bytes_inj (leq_iff.mp h)
noncomputable def SortOk (K : Frag) (prog : Program) (w : World) : Prop :=
 ∀ {σ : St} {ρ : Rho} {i : Nat} {a : Addr} {l k : List PyData} {A : Around} {s : Shared}, nth σ i = some (.list l) -> sortT l = some k -> l.length <= 60 -> 2 <= l.length -> Rl K σ ρ s.heap -> nth ρ.l i = some a -> Room 10 A -> CallOk K prog w A (.builtin "sorted") [.ref a] (.ref (len σ)) (σ ++ [.list k]) ρ s
section
variable {vs : List AV} {us : List Value} {v : AV} {σ σ' : St} {ρ : Rho} {A : Around} {s : Shared}
theorem lenA_ok (h : lenA vs σ = some (v, σ', true)) (R : Rl K σ ρ s.heap) (V : VRs ρ vs us) : CallOk K prog w A (.builtin "len") us v σ' ρ s := fun Q E q =>
 one_vr h V fun w u v1 h2 => by
  cases e : strV w with
  | some x =>
   rw [e] at h2
   have e1 := strV_inv e
   subst e1
   exact v1.st fun t => chk_el h2 fun fl h => by
    have fl := small_ok fl
    have q := ok_q h q
    rw [show (Int.ofNat (len x.cps.toList)) = (x.length : Int) by rw [len_eq]; exact congrArg Int.ofNat Array.length_toList] at q
    exact len_str (by lia) (q ρ _ _ R (.refl ..) (.ht _ _ _) ⟨_, rfl⟩)
  | none =>
   rw [e] at h2
   refine bnd_el h2 fun l h1 h => chk_el h fun fl h => ?_
   have fl := fit_ok fl
   have q := ok_q h q
   obtain ⟨ad, ws, m, rfl, g, W⟩ := listOfV_ok R h1 v1
   rw [show (Int.ofNat (len l)) = (((⟨ws⟩ : Array Value).size : Nat) : Int) by rw [len_eq, size_mk, W.length]; rfl] at q
   exact call_len_list (items := ⟨ws⟩) ⟨_, g, rfl, m, rfl⟩ (by rw [size_mk, W.length]; exact nb_lt ‹_› rfl) (q ρ _ _ R (.refl ..) (.ht _ _ _) ⟨_, rfl⟩)
theorem minA_ok (L : Lo K) (hr : Room 10 A) (h : minA vs σ = some (v, σ', true)) (R : Rl K σ ρ s.heap) (V : VRs ρ vs us) : CallOk K prog w A (.builtin "min") us v σ' ρ s := fun Q E q =>
 two_vr h V fun a b u u' v1 v2 h => int2_vr h v1 v2 fun x t y t' h => min_two_ints hr.2.2 fun h' tk hk => by
  have q := ok_q h q
  refine q ρ _ _ (R.grow L hk) (.grow hk) (.ht _ _ _) ?_
  cases e : ilt y x with
  | true => rw [if_pos ((ilt_iff y x).mp e), pk_true]; exact ⟨_, rfl⟩
  | false => rw [if_neg fun z => ff_el (e.symm.trans ((ilt_iff y x).mpr z)), pk_false]; exact ⟨_, rfl⟩
theorem sorA_ok (hS : SortOk K prog w) (hr : Room 10 A) (h : sorA vs σ = some (v, σ', true)) (R : Rl K σ ρ s.heap) (V : VRs ρ vs us) : CallOk K prog w A (.builtin "sorted") us v σ' ρ s := fun Q E q =>
 one_vr h V fun w u v1 h => ref_vr h v1 fun i a ha h => bnd_el h fun l hl h => bnd_el h fun k h1 h => chk_el h fun f1 h => chk_el h fun f2 h => by
  have f1 := Nat.le_of_ble_eq_true f1
  have f2 := Nat.le_of_ble_eq_true f2
  rw [len_eq] at f1 f2
  exact hS (lsO_inv hl) h1 f1 f2 R ha hr Q E (ok_q h q)
theorem insA_ok (h : insA vs σ = some (v, σ', true)) (R : Rl K σ ρ s.heap) (V : VRs ρ vs us) : CallOk K prog w A (.builtin "isinstance") us v σ' ρ s := fun Q E q =>
 two_vr h V fun a b u u' v1 v2 h => str_vr h v1 fun x t h => typ_vr h v2 fun f h => gd_el h fun ht h => by
  rw [strN_ok ht]
  exact call_isinstance_yes (typeIs_str _ _ _) (by kernel_rfl) (by rw [isSubtype_type]; kernel_rfl) (ok_q h q ρ _ _ R (.refl ..) (.ht _ _ _) rfl)
end
theorem bltA_ok (L : Lo K) (hS : SortOk K prog w) {f : String} {vs : List AV} {us : List Value} {v : AV} {σ σ' : St} {ρ : Rho} {A : Around} {s : Shared} (hr : Room 10 A) (h : bltA f vs σ = some (v, σ', true)) (R : Rl K σ ρ s.heap) (V : VRs ρ vs us) : CallOk K prog w A (.builtin f) us v σ' ρ s :=
 pk2_el h (fun e h => by rw [strN_ok e]; exact lenA_ok h R V) fun ι h => pk2_el h (fun e h => by rw [strN_ok e]; exact minA_ok L hr h R V) fun ι h => pk2_el h (fun e h => by rw [strN_ok e]; exact sorA_ok hS hr h R V) fun ι h => gd_el h fun e h => by rw [strN_ok e]; exact insA_ok h R V
noncomputable def DeqOk (K : Frag) (prog : Program) (w : World) : Prop :=
 ∀ {σ : St} {ρ : Rho} {A : Around} {s : Shared}, Rl K σ ρ s.heap -> Room 10 A -> CallOk K prog w A (.type "collections.deque") [] (.ref (len σ)) (σ ++ [.deq]) ρ s
noncomputable def LexOk (K : Frag) (prog : Program) (w : World) (T : Tp) (n : Nat) (r : Rec) : Prop :=
 ∀ {σ σ₁ σ' : St} {ρ : Rho} {i : Nat} {a : Addr} {fn : Fn} {l : List PyData} {A : Around} {s : Shared}, isLex σ i = true -> plainFn1 fn = true -> nlook 886 T.fns = some [fn] -> r.call 879 [.ref i] [] σ = some (.ref i, σ₁, true) -> wordsA T r fn i (len σ₁) 1000 [] σ₁ = some (l, σ', true) -> fit l = true -> Rl K σ ρ s.heap -> nth ρ.l i = some a -> FrA A ρ -> Room (n + 1) A ->
  CallOk K prog w A (.type "list") [.ref a] (.ref (len σ')) (σ' ++ [.list l]) ρ s
section
variable {vs : List AV} {us : List Value} {v : AV} {σ σ' : St} {ρ : Rho} {A : Around} {s : Shared}
theorem tyA_ok (h : tyA vs σ = some (v, σ', true)) (R : Rl K σ ρ s.heap) (V : VRs ρ vs us) : CallOk K prog w A (.type "type") us v σ' ρ s := fun Q E q =>
 one_vr h V fun wv u v1 h2 => bnd_el h2 fun t h1 h2 => by
  have q := ok_q h2 q
  have fin : ∀ {f}, s.TypeIs u f -> Value.type f = t -> (Value.type f == Value.type "builtin_function_or_method") = false -> wpAny (model prog w) A (call (.type "type") [u]) Q E s := fun {f} g e n => by
   subst e
   exact call_type_of g n (q ρ s _ R (.refl ..) (.refl _) rfl)
  cases wv with
  | str x => exact fin (v1.st fun t => typeIs_str _ _ _) (Option.some.inj h1) (by decide)
  | int x => exact fin (v1.it fun t => typeIs_int _ _ _) (Option.some.inj h1) (by decide)
  | ref i =>
   exact bnd_el h1 fun l hl h1 => fin (v1.rf fun ad ha => by
    obtain ⟨_, _, g, W⟩ := (R.ob i ad _ ha (lsO_inv hl)).out
    exact ⟨_, g, rfl⟩) (Option.some.inj h1) (by decide)
  | _ => exact none_el h1
theorem liA_ok (hL : LexOk K prog w T n r) (fa : FrA A ρ) (hr : Room (n + 1) A) (h : liA r T vs σ = some (v, σ', true)) (R : Rl K σ ρ s.heap) (V : VRs ρ vs us) : CallOk K prog w A (.type "list") us v σ' ρ s := fun Q E q =>
 one_vr h V fun w u v1 h => ref_vr h v1 fun i ad ha h => gd_el h fun h1 h => bnd_el h fun fs h2 h => bnd_el h fun fn h0 h => bn2_el h fun v2 σ₁ h3 h => bnd_el h fun j hj h => gd_el h fun hp h => and_el hp fun hij hpf => bn2_el h fun l σ2 h4 h => chk_el h fun fl h => by
  rw [refV_inv hj, <- Nat.eq_of_beq_eq_true hij] at h3
  exact hL h1 hpf (oneV_inv h0 ▸ h2) h3 h4 fl R ha fa hr Q E (ok_q h q)
end
theorem typA_ok (hD : DeqOk K prog w) (hL : LexOk K prog w T n r) (hn : 10 <= n) {f : String} {vs : List AV} {us : List Value} {v : AV} {σ σ' : St} {ρ : Rho} {A : Around} {s : Shared} (fa : FrA A ρ) (hr : Room (n + 1) A) (h : typA r T f vs σ = some (v, σ', true)) (R : Rl K σ ρ s.heap) (V : VRs ρ vs us) : CallOk K prog w A (.type f) us v σ' ρ s :=
 pk2_el h (fun e h => by rw [strN_ok e]; exact tyA_ok h R V) fun ι h => pk2_el h (fun e h => by rw [strN_ok e]; exact fun Q E q => one_vr h V fun w u v1 h => int_vr h v1 fun x t h => call_int_int (ok_q h q ρ s _ R (.refl ..) (.refl _) ⟨_, rfl⟩)) fun ι h =>
  pk2_el h (fun e h => by rw [strN_ok e]; exact liA_ok hL fa hr h R V) fun ι h => gd_el h fun e h => gd_el h fun e2 h => by rw [strN_ok e]; exact fun Q E q => VRs.nil_el e2 V (hD R (hr.le (Nat.le_succ_of_le hn)) Q E (ok_q h q))
theorem replW_ok {x y z t : Str} (h : replW x y z = some t) : Txt.replace x y z = t /\ (y == z) = false /\ x.length <= 1000 /\ z.length <= 14 :=
 gd_el h fun e h => and_el e fun e1 e2 => by
  rw [seq_iff.mp e1, seq_iff.mp e2]
  exact pk2_el h (fun e3 h => by rw [seq_iff.mp e3]; exact some_el h ⟨by decide +kernel, by decide +kernel, by decide +kernel, by decide +kernel⟩) fun ι h => gd_el h fun e4 h => by
   rw [seq_iff.mp e4]; exact some_el h ⟨by decide +kernel, by decide +kernel, by decide +kernel, by decide +kernel⟩
@[elab_as_elim] theorem mcE_el {e : Expr} {m : McE} {C : Expr -> Prop} (h : mcE e = some m) (k : ∀ p, C (.Call (.Attribute (.Name m.o p) m.x m.ap) m.as [] m.p)) : C e :=
 bnd_el h fun q h1 h => gd_el h fun hn h => bnd_el h fun a h2 h => bnd_el h fun o h3 h => by
  obtain rfl := Option.some.inj h
  refine callE_el h1 ?_
  rw [isNil_inv hn]
  exact attE_el (C := fun f => C (.Call f q.as [] q.p)) h2 (nameOf_el (C := fun o => C (.Call (.Attribute o a.x a.p) q.as [] q.p)) h3 k)
@[elab_as_elim] theorem binE_el {e : Expr} {b : BiE} {C : Expr -> Prop} (h : binE e = some b) (k : ∀ p, C (.BinOp b.l b.op b.r p)) : C e :=
 onC_el h fun hb => Expr.BinOp.elim (motive_1 := fun e => binE e = some b -> C e) e hb (fun l op r p h => som_e2 (q := fun q => (∀ p, C (.BinOp q.l q.op q.r p)) -> C (.BinOp l op r p)) h (fun k => k p) k) h
theorem isLoc_inv {k : NameKind} (h : isLoc k = true) : k = .local := by
 cases k with
 | «local» => rfl
 | _ => exact ff_el h
set_option maxRecDepth 100000 in
theorem quot_walk {x m y z a b rp str : Str} {px ap cp py pz pa pb bp pos : Pos} {ka kb ky kz : Nat} {tu : Tok} {A : Around} {env : Env} {E : Value -> Shared -> Prop} {s : Shared} {mm : Str -> Option Value} {Q : Value -> Shared -> Prop} (hd : (x == ("__debug__" : Str)) = false) (hk : env.scope.kind = .function) (hx : env.kindOf x = some .local) (hn : s.heap.Ns env.locals mm) (hu : mm x = some (.str str tu)) (hm : m = s_replace) (hl : Nat.beq ap.endLine cp.line = true)
 (h3 : replW str y z = some rp) (f1 : small (cat a rp) = true) (f2 : small (cat (cat a rp) b) = true) (qq : ∀ t tk, Q (.str (cat (cat a rp) b) t) { s with toks := tk }) :
 wpAny (model prog w) A (eval (.BinOp (.BinOp (.Constant (.str a) ka pa) .Add (.Call (.Attribute (.Name x px) m ap) [.Constant (.str y) ky py, .Constant (.str z) kz pz] [] cp) bp) .Add (.Constant (.str b) kb pb) pos) env) Q E s := by
 obtain ⟨r1, r2, r3, r4⟩ := replW_ok h3
 refine wpAny_BinOp (wpAny_BinOp (wpAny_Constant_str ?_))
 have line : (ap.endLine == cp.line) = true := beq_iff_eq.mpr (Nat.eq_of_beq_eq_true hl)
 refine methodCall_KW (pl := do return (<- importBound (.Name x px) env).getD true) ?_ (by
  rw [arm_eval_Call, notSuper_ok rfl]
  unfold methodCall calleeOf methodCallPos
  have form : methodCallForm ([Expr.Constant (.str y) ky py, Expr.Constant (.str z) kz pz].length + ([] : List Keyword).length) (backTo cp (starEach [Expr.Constant (.str y) ky py, Expr.Constant (.str z) kz pz] env)) (backToKw cp (keywordEach [] env)) = true := by rfl
  simp only [form, line, if_true, Bool.not_true, Bool.false_or, pure_bind])
 refine wpAny_Name (wpAny_loadName_local hk hx hn hu ?_) hd
 subst hm
 refine getMethod_builtin (typeIs_str _ _ _) PySem.F.plainAttrs_str F.slot_str_replace F.type_str_replace GM.noRef ?_
 refine callWith_of (P := fun ι => True) rfl (fun ι ι => ⟨.machine, .inr (.inl rfl), .now⟩) (evalArgs_gen rfl rfl ?_)
 refine wpAny_items_cons (wpAny_Constant_str (wpAny_items_cons (wpAny_Constant_str (wpAny_items_nil (wpAny_evalAll_nil ⟨trivial, ?_⟩)))))
 refine SC.replaceW (Nat.succ_ne_zero _) (Nat.succ_ne_zero _) (Nat.ne_of_lt (Nat.lt_succ_self _)) r2 (le_c ‹_› rfl) r4 fun t' k => ?_
 rw [r1]
 exact P.add_str (add_made f1 fun t1 tk1 => wpAny_Constant_str (P.add_str (add_made f2 fun t2 tk2 => qq _ _)))
theorem quotV_ok {c : Cx} {l q : Expr} {pos : Pos} {t : Str × Str × Str × Str × Str} {σ σ' : St} {v : AV} {ρ : Rho} {A : Around} {env : Env} {s : Shared} (hq : quotE l q = some t) (h : quotV T c t σ = some (v, σ', true)) (R : Rl K σ ρ s.heap) (e : EnvR A c ρ env) :
 Wp K prog w VR A s ρ (eval (.BinOp l .Add q pos) env) v σ' := fun Q E qq =>
 bnd_el h fun k hx h => gd_el h fun hk h => bnd_el h fun ln h1 h => bnd_el h fun vv h2 h => bnd_el h fun str hs h => bnd_el h fun rp h3 h => chk_el h fun f1 h => chk_el h fun f2 h => chk_el h fun f3 h => by
  rw [isLoc_inv hk] at hx
  have qq := ok_q h qq
  obtain ⟨_, hn, hf⟩ := (R.ob _ _ _ e.loc (nsOf_eq h1)).out
  have e1 := strV_inv hs
  subst e1
  rcases hf _ _ h2 with w0 | ⟨u, hu, tu, hv⟩
  · exact nomatch w0
  · rw [hv] at hu
    refine bnd_el hq fun b g1 hq => gd_el hq fun ha hq => bnd_el hq fun a g2 hq => bnd_el hq fun m g4 hq => bnd_el hq fun p g5 hq => bnd_el hq fun y g6 hq => bnd_el hq fun z g7 hq => bnd_el hq fun b2 g8 hq => gd_el hq fun hg hq => and_el hg fun hm hl => ?_
    obtain rfl := Option.some.inj hq
    refine binE_el g1 fun bp => ?_
    rw [isAdd_inv ha]
    refine strE_el (C := fun l => wpAny (model prog w) A (eval (.BinOp (.BinOp l .Add b.r bp) .Add q pos) env) Q E s) g2 fun ka pa => strE_el (C := fun q => wpAny (model prog w) A (eval (.BinOp (.BinOp (.Constant (.str a) ka pa) .Add b.r bp) .Add q pos) env) Q E s) g8 fun kb pb => mcE_el g4 fun px => ?_
    rw [twoV_inv g5]
    exact strE_el (C := fun e => wpAny (model prog w) A (eval (.BinOp (.BinOp (.Constant (.str a) ka pa) .Add (.Call (.Attribute (.Name m.o px) m.x m.ap) [e, p.2] [] m.p) bp) .Add (.Constant (.str b2) kb pb) pos) env) Q E s) g6 fun ky py =>
     strE_el (C := fun e => wpAny (model prog w) A (eval (.BinOp (.BinOp (.Constant (.str a) ka pa) .Add (.Call (.Attribute (.Name m.o px) m.x m.ap) [.Constant (.str y) ky py, e] [] m.p) bp) .Add (.Constant (.str b2) kb pb) pos) env) Q E s) g7 fun kz pz =>
      quot_walk (beq_eq_false_iff_ne.mpr (seq_false.mp (not_el f3))) (e.sc ▸ e.fn) ((kindOf_eq e _).trans hx) hn hu (seq_iff.mp hm) hl h3 f1 f2 fun t tk => qq ρ _ _ R (.refl ..) (.tt _ _) ⟨_, rfl⟩
theorem Rl.withFs {σ : St} {l : List Addr} {F X : Fz} {f g : List Nat} {h : Heap} (R : Rl K σ ⟨l, F, X, f⟩ h) (hg : ∀ i, i ∈ g -> ∃ m, nth σ i = some (.ns m)) : Rl K σ ⟨l, F, X, g⟩ h := by
 have u : Up ⟨l, F, X, f⟩ ⟨l, F, X, g⟩ := ⟨⟨[], by simp⟩, .refl _⟩
 exact ⟨R.gd, R.len, R.nd, R.lo, fun i a o e e' => (R.ob i a o e e').move u fun ι e => e, R.fin, R.xin, R.fz, R.fx, R.jt, hg, R.pj⟩
theorem Ex.withFs {l : List Addr} {F X : Fz} {f g : List Nat} {ρ' : Rho} {h h' : Heap} (x : Ex ⟨l, F, X, f⟩ h ρ' h') : Ex ⟨l, F, X, g⟩ h ⟨ρ'.l, ρ'.F, ρ'.X, g⟩ h' :=
 ⟨x.pre, x.fr, x.xs, rfl, x.keep, x.tab⟩
theorem pickFn_ok {m : Nat} {ks : List (Str × AV)} {fs : List Fn} {fn : Fn} (h : pickFn m ks fs = some fn) : fn ∈ fs /\ fn.npos = m /\ sameKws fn.kws ks = true := by
 induction fs with
 | nil => exact none_el h
 | cons f l ih =>
  have up := fun h => (ih h).imp (List.Mem.tail f) id
  unfold pickFn at h
  cases h1 : Nat.beq f.npos m with
  | false => rw [h1] at h; exact up h
  | true =>
   rw [h1] at h
   dsimp only at h
   cases h2 : sameKws f.kws ks with
   | false => rw [h2] at h; exact up h
   | true => rw [h2] at h; exact some_el h ⟨.head _, Nat.eq_of_beq_eq_true h1, h2⟩
theorem sameKws_ok {ρ : Rho} {ks : List (Str × AV)} {uks : List (Str × Value)} (W : KRs ρ ks uks) : ∀ {l : List Str}, sameKws l ks = true -> uks.map (·.1) = l := by
 induction W with
 | nil => exact fun {l} h => by cases l with
  | nil => rfl
  | cons => exact ff_el h
 | @cons x a v l' vs _ r ih =>
  intro l h
  cases l with
  | nil => exact ff_el h
  | cons y l =>
   unfold sameKws at h
   cases hx : seq y x with
   | true => rw [hx] at h; rw [List.map_cons, ih h, seq_iff.mp hx]
   | false => rw [hx] at h; exact ff_el h
theorem nth_VRs {ρ : Rho} {l : List AV} {vs : List Value} {i : Nat} {a : AV} (V : VRs ρ l vs) (h : nth l i = some a) : ∃ u, nth vs i = some u /\ VR ρ a u := by
 induction V generalizing i with
 | nil => exact none_el h
 | cons v _ ih =>
  cases i with
  | zero => obtain rfl := Option.some.inj h; exact ⟨_, rfl, v⟩
  | succ i => exact ih h
theorem look_KRs {ρ : Rho} {x : Str} {l : List (Str × AV)} {vs : List (Str × Value)} (W : KRs ρ l vs) {a : AV} : look x l = some a -> ∃ u, look x vs = some u /\ VR ρ a u := by
 induction W with
 | nil => exact fun h => none_el h
 | @cons y b v l vs hv r ih =>
  intro h
  unfold look at h ⊢
  cases q : seq x y with
  | true => rw [q] at h; exact ⟨v, rfl, Option.some.inj h ▸ hv⟩
  | false => rw [q] at h; exact ih h
theorem src_ok {ρ : Rho} {vs : List AV} {us : List Value} {ks : List (Str × AV)} {uks : List (Str × Value)} (V : VRs ρ vs us) (W : KRs ρ ks uks) {s : Src} {a : AV} (h : srcOf vs ks s = some a) : VR ρ a (srcV us uks s) := by
 cases s with
 | pos i => obtain ⟨u, hu, hv⟩ := nth_VRs V h; show VR ρ a ((nth us i).getD .none); rw [hu]; exact hv
 | kw x => obtain ⟨u, hu, hv⟩ := look_KRs W h; show VR ρ a ((look x uks).getD .none); rw [hu]; exact hv
 | dflt v =>
  obtain rfl := Option.some.inj h
  cases v with
  | int i t => exact ⟨_, rfl⟩
  | str i t => exact ⟨_, rfl⟩
  | _ => exact rfl
theorem binds_ok {ρ : Rho} {vs : List AV} {us : List Value} {ks : List (Str × AV)} {uks : List (Str × Value)} (V : VRs ρ vs us) (W : KRs ρ ks uks) {b : List (Str × Src)} : ∀ {l : List (Str × AV)}, bindsA vs ks b = some l -> KRs ρ l (bindsV us uks b) := by
 induction b with
 | nil => exact fun h => some_el h .nil
 | cons p b ih => exact fun h => bnd_el h fun a h1 h => bnd_el h fun m h2 h => some_el h (.cons (src_ok V W h1) (ih h2))
theorem lookup_nodup {α : Type} {x : Str} {v : α} {l : List (Str × α)} : (l.map (·.1)).Nodup -> (x, v) ∈ l -> l.lookup x = some v := by
 induction l with
 | nil => exact fun ι h => nomatch h
 | cons p l ih =>
  obtain ⟨y, u⟩ := p
  intro hn hm
  rw [List.map_cons, List.nodup_cons] at hn
  rw [List.lookup_cons]
  refine (List.mem_cons.mp hm).elim (fun e => ?_) fun hm => ?_
  · rw [show x = y from congrArg Prod.fst e, beq_self_eq_true, show v = u from congrArg Prod.snd e]
  · rw [show (x == y) = false from beq_eq_false_iff_ne.mpr fun e => hn.1 (e ▸ List.mem_map_of_mem (f := (·.1)) hm)]
    exact ih hn.2 hm
theorem lookup_rev {α : Type} {x : Str} {v : α} {l : List (Str × α)} (hn : (l.map (·.1)).Nodup) (hm : (x, v) ∈ l) : l.reverse.lookup x = some v :=
 lookup_nodup (by rw [List.map_reverse]; exact (List.reverse_perm _).nodup_iff.mpr hn) (List.mem_reverse.mpr hm)
theorem bindsV_names (us : List Value) (uks : List (Str × Value)) (b : List (Str × Src)) : (bindsV us uks b).map (·.1) = b.map (·.1) := by unfold bindsV; rw [List.map_map]; rfl
theorem FrA.enter {A : Around} {ρ : Rho} {env : Env} {i : Nat} {L : Addr} {l : List Addr} {F X : Fz} (f : FrA A ρ) (hl : ∃ t, l = ρ.l ++ t) (hk : env.scope.kind = .function) (hL : nth l i = some L) (hf : env.frame = some L) : FrA (A.deeper env) ⟨l, F, X, i :: ρ.fs⟩ := by
 obtain ⟨fr, h, k⟩ := f
 obtain ⟨t, rfl⟩ := hl
 refine ⟨env :: fr, Around.frames_deeper h, fun e he => ?_⟩
 rcases List.mem_cons.mp he with rfl | he
 · exact ⟨by rw [hk]; decide, .inr ⟨i, L, .head _, hL, hf⟩⟩
 · obtain ⟨hk, z | ⟨j, M, hj, hM, hf⟩⟩ := k e he
   · exact ⟨hk, .inl (.tail _ z)⟩
   exact ⟨hk, .inr ⟨j, M, .tail _ hj, nth_append_left hM, hf⟩⟩
theorem leave_ok {σ σ' : St} {ρ : Rho} {l : List Addr} {F X : Fz} {i : Nat} {h h₀ : Heap} {ρ' : Rho} {h' : Heap} (R : Rl K σ ρ h) (hi : σ.length <= i) (X0 : Ex ρ h ⟨l, F, X, ρ.fs⟩ h₀) (R' : Rl K σ' ρ' h') (X' : Ex ⟨l, F, X, i :: ρ.fs⟩ h₀ ρ' h') :
 Rl K (setNth σ' i .junk) ⟨ρ'.l, ρ'.F, ρ'.X, ρ.fs⟩ h' /\ Ex ρ h ⟨ρ'.l, ρ'.F, ρ'.X, ρ.fs⟩ h' := by
 have nfs : i ∉ ρ.fs := fun m => by
  obtain ⟨ln, e⟩ := R.fr i m
  have := nth_len e
  lia
 refine ⟨(R'.withFs (f := ρ'.fs) (g := ρ.fs) fun j m => R'.fr j ?_).drop nfs, X0.trans X'.withFs⟩
 rw [show ρ'.fs = i :: ρ.fs from X'.es]
 exact .tail _ m
theorem fs_push {σ σ0 : St} {ρ : Rho} {h : Heap} {i : Nat} {l : List (Str × AV)} (R : Rl K σ ρ h) (hi : nth (σ ++ σ0) i = some (.ns l)) : ∀ j, j ∈ i :: ρ.fs -> ∃ m, nth (σ ++ σ0) j = some (.ns m) :=
 List.forall_mem_cons.mpr ⟨⟨l, hi⟩, fun j mj => let ⟨ln, e⟩ := R.fr j mj; ⟨ln, nth_append_left e⟩⟩
theorem body_ok (S : Snd K prog w n r) {A' : Around} {c : Cx} {body : List Stmt} {σ σ0 σ₁ : St} {fl : Fl} {v : AV} {ρ : Rho} {l : List Addr} {i : Nat} {h₀ : Heap} {s : Shared} {tk : Tok} {env : Env} {QQ : Value -> Shared -> Prop} {Q' : Flow -> Shared -> Prop} {E : Value -> Shared -> Prop}
 (R : Rl K σ ρ s.heap) (hi : σ.length <= i) (X0 : Ex ρ s.heap ⟨l, ρ.F, ρ.X, ρ.fs⟩ h₀) (R1 : Rl K σ0 ⟨l, ρ.F, ρ.X, ρ.fs⟩ h₀) (hf : ∀ j, j ∈ i :: ρ.fs -> ∃ m, nth σ0 j = some (.ns m)) (e : EnvR A' c ⟨l, ρ.F, ρ.X, i :: ρ.fs⟩ env) (hr : Room n A') (h4 : exsA r c body σ0 = some (fl, σ₁, true)) (hv : flV fl = some v)
 (k1 : ∀ s', QQ .none s' -> Q' .next s') (k2 : ∀ x s', QQ x s' -> Q' (.ret x) s') (q : Kt K VR s ρ QQ v (setNth σ₁ i .junk)) : wpAny (model prog w) A' (execs body env) Q' E { s with heap := h₀, toks := tk } := by
 refine exs_ok S hr (s := { s with heap := h₀, toks := tk }) h4 (R1.withFs hf) e _ _ fun ρ1 s₁ u R1 X1 G1 V1 => ?_
 obtain ⟨R2, X2⟩ := leave_ok R hi X0 R1 X1
 have G := (Gs.ht s _ _).trans G1
 induction V1 with
 | next => exact k1 _ (some_q hv (q := fun v => Kt K VR s ρ QQ v (setNth σ₁ i .junk)) q _ s₁ _ R2 X2 G rfl)
 | ret V => exact k2 _ _ (some_q hv (q := fun v => Kt K VR s ρ QQ v (setNth σ₁ i .junk)) q _ s₁ _ R2 X2 G (V.up ⟨⟨[], by simp⟩, .refl _⟩))
 | _ => exact none_el hv
noncomputable abbrev RtR (ρ : Rho) (a : AV) (u : Flow) : Prop := ∃ x, u = .ret x /\ VR ρ a x
theorem call_plain (L : Lo K) (S : Snd K prog w n r) {f : Addr} {fn : Fn} (F : FnOk K f fn) {l : List (Str × AV)} {σ σ₁ : St} {fl : Fl} {v : AV} {ρ : Rho} {A : Around} {us : List Value} {uks : List (Str × Value)} {s : Shared}
 (hc : ∀ x ∈ fn.fd.scope.names, x.2 ≠ .cell) (hlo : ∀ p ∈ fn.binds, fn.fd.scope.names.lookup p.1 = some .local) (hbd : BindsTo s fn.fd ⟨us, uks⟩ (bindsV us uks fn.binds))
 (B : KRs ρ l (bindsV us uks fn.binds)) (h4 : exsA r ⟨len σ, fn.fd.scope, []⟩ fn.body (σ ++ [.ns l]) = some (fl, σ₁, true)) (hv : flV fl = some v) (R : Rl K σ ρ s.heap) (fa : FrA A ρ) (hr : Room (n + 1) A) :
 Cd K prog w RtR A s ρ (.call (.ref f) ⟨us, uks⟩) v (setNth σ₁ (len σ) .junk) := by
 intro Q q
 obtain ⟨oc, od, sl, ho⟩ := F.at_
 refine codeAny_call_def (fd := fn.fd) (body := fn.body) (binds := bindsV us uks fn.binds) (by have := hr.1; exact rm_0 ‹_›) (R.gd.kin _ _ ho) rfl R.gd.lim (codeRec_of R.gd.kin F.code) F.body hbd hc (fun x hx => ?_) (fun h₀ hns hk => ?_) F.co F.ge F.kd
 · obtain ⟨p, hp, e⟩ := List.mem_map.mp hx
   exact e ▸ hlo p hp
 · have R0 := R.push L hk (get_size _) (.ns hns fun x a hx => by
    obtain ⟨u, hu, hv⟩ := look_KRs B hx
    exact .inr ⟨u, lookup_rev (by rw [bindsV_names]; exact F.nd) (look_mem hu), hv.up ⟨⟨_, rfl⟩, .refl _⟩⟩)
   have hL : nth (ρ.l ++ [s.heap.objs.size]) (len σ) = some s.heap.objs.size := by rw [len_eq, <- R.len]; exact nth_last _ _
   exact body_ok (c := ⟨len σ, fn.fd.scope, []⟩) S R (by rw [len_eq]; exact Nat.le_refl _) (.push hk (get_size _)) R0 (fs_push R (by rw [len_eq]; exact nth_last _ _)) ⟨rfl, F.kd, hL, F.gl, F.bl, fun x i hx => none_el hx, fa.enter ⟨_, rfl⟩ F.kd hL rfl, let ⟨fr, h, _⟩ := fa; ⟨_, fr, Around.frames_deeper h, rfl⟩⟩ (hr.deeper (Nat.le_refl _)) h4 hv
    (QQ := fun x => Q (.ok (.ret x))) (fun ι h => h) (fun ι ι h => h) fun ρ' s' x R X G V => q ρ' s' _ R X G ⟨x, rfl, V⟩
theorem look_append_none {α : Type} {x y : Str} {v : α} {l : List (Str × α)} : look y (l ++ [(x, v)]) = (match look y l with | some u => some u | none => match seq y x with | true => some v | false => none) := by
 induction l with
 | nil => rfl
 | cons p l ih =>
  show (match seq y p.1 with | true => some p.2 | false => look y (l ++ [(x, v)])) = (match (match seq y p.1 with | true => some p.2 | false => look y l) with | some u => some u | none => _)
  cases seq y p.1 with
  | true => rfl
  | false => exact ih
theorem call_dict (L : Lo K) (S : Snd K prog w n r) {f : Addr} {fn : Fn} (F : FnOk K f fn) {x : Str} {l : List (Str × AV)} {σ σ₁ : St} {fl : Fl} {v : AV} {ρ : Rho} {A : Around} {us : List Value} {uks : List (Str × Value)} {s : Shared}
 (hc : ∀ x ∈ fn.fd.scope.names, x.2 ≠ .cell) (hlo : ∀ p ∈ fn.binds, fn.fd.scope.names.lookup p.1 = some .local) (hx : fn.fd.scope.names.lookup x = some .local) (hnx : look x fn.binds = none) (hbd : BindsD s fn.fd ⟨us, uks⟩ x (bindsV us uks fn.binds))
 (B : KRs ρ l (bindsV us uks fn.binds)) (h4 : exsA r ⟨Nat.succ (len σ), fn.fd.scope, []⟩ fn.body (σ ++ [.dict [], .ns (l ++ [(x, .ref (len σ))])]) = some (fl, σ₁, true)) (hv : flV fl = some v) (R : Rl K σ ρ s.heap) (fa : FrA A ρ) (hr : Room (n + 1) A) :
 Cd K prog w RtR A s ρ (.call (.ref f) ⟨us, uks⟩) v (setNth σ₁ (Nat.succ (len σ)) .junk) := by
 intro Q q
 obtain ⟨oc, od, sl, ho⟩ := F.at_
 have hlim : (s.heap.push (dictOf [] 0)).NoLimit := R.gd.lim.keeps (push_keep _ _)
 refine codeAny_call_function (by have := hr.1; exact rm_0 ‹_›) (R.gd.kin _ _ ho) rfl F.co F.ge F.body (codeRec_of R.gd.kin F.code) (hbd _ _ _ _ ?_)
 refine wpAny_newFunctionEnv hc ?_ (fun h₀ hns hsb => ⟨hlim.fresh _ hsb, codeAny_func ?_⟩) F.kd
 · intro y hy
   rcases List.mem_append.mp hy with hy | hy
   · obtain ⟨p, hp, rfl⟩ := List.mem_map.mp hy
     exact hlo p hp
   · rw [List.mem_singleton] at hy; subst hy; exact hx
 have hk : ∀ b o, (s.heap.push (dictOf [] 0)).get? b = some o -> h₀.get? b = some o := fun b o e => hsb.extBut b o (Nat.ne_of_lt (Heap.lt_size e)) (Heap.get?_push_of_some _ e)
 have nd : (((bindsV us uks fn.binds) ++ [(x, Value.ref s.heap.objs.size)]).map (·.1)).Nodup := by
  rw [List.map_append, bindsV_names]
  refine List.nodup_append.mpr ⟨F.nd, by simp, ?_⟩
  intro a ha b hb
  simp at hb
  subst hb
  rintro rfl
  obtain ⟨p, hp, rfl⟩ := List.mem_map.mp ha
  rw [look_eq, lookup_nodup F.nd (show (p.1, p.2) ∈ fn.binds from hp)] at hnx
  cases hnx
 obtain ⟨R0, X0, e0⟩ := R.new L (dictOf [] 0) (.dict (l := []) (Heap.get?_push_size _ rfl) .nil R.gd.sys)
 have u0 : Up ρ ⟨ρ.l ++ [s.heap.objs.size], ρ.F, ρ.X, ρ.fs⟩ := ⟨⟨_, rfl⟩, .refl _⟩
 have u1 : Up ⟨ρ.l ++ [s.heap.objs.size], ρ.F, ρ.X, ρ.fs⟩ ⟨(ρ.l ++ [s.heap.objs.size]) ++ [(s.heap.push (dictOf [] 0)).objs.size], ρ.F, ρ.X, ρ.fs⟩ := ⟨⟨_, rfl⟩, .refl _⟩
 have key : ∀ y a, look y (l ++ [(x, .ref (len σ))]) = some a -> ∃ u, ((bindsV us uks fn.binds) ++ [(x, Value.ref s.heap.objs.size)]).reverse.lookup y = some u /\ VR ⟨ρ.l ++ [s.heap.objs.size], ρ.F, ρ.X, ρ.fs⟩ a u := by
  intro y a hy
  rw [look_append_none] at hy
  cases hu : look y l with
  | some u =>
   rw [hu] at hy
   obtain rfl := Option.some.inj hy
   obtain ⟨z, hz, hvz⟩ := look_KRs B hu
   exact ⟨z, lookup_rev nd (List.mem_append_left _ (look_mem hz)), hvz.up u0⟩
  | none =>
   rw [hu] at hy
   dsimp only at hy
   cases he : seq y x with
   | true =>
    rw [he] at hy
    obtain rfl := Option.some.inj hy
    exact ⟨_, lookup_rev nd (List.mem_append_right _ (seq_iff.mp he ▸ .head _)), ⟨_, e0, rfl⟩⟩
   | false => rw [he] at hy; exact none_el hy
 have R1 := R0.push L hk (get_size _) (.ns hns fun y a hy => by
  obtain ⟨u, hu, hv⟩ := key y a hy
  exact .inr ⟨u, hu, hv.up u1⟩)
 have X1 := X0.trans (Ex.push (ρ := ⟨ρ.l ++ [s.heap.objs.size], ρ.F, ρ.X, ρ.fs⟩) hk (get_size _))
 have ln : len (σ ++ [AO.dict []]) = Nat.succ (len σ) := by rw [len_eq, len_eq]; simp
 have hL : nth ((ρ.l ++ [s.heap.objs.size]) ++ [(s.heap.push (dictOf [] 0)).objs.size]) (Nat.succ (len σ)) = some (s.heap.push (dictOf [] 0)).objs.size := by
  rw [<- ln, len_eq, <- R0.len]; exact nth_last _ _
 have eσ : (σ ++ [AO.dict []]) ++ [AO.ns (l ++ [(x, .ref (len σ))])] = σ ++ [.dict [], .ns (l ++ [(x, .ref (len σ))])] := by simp
 rw [eσ] at R1
 exact body_ok (c := ⟨Nat.succ (len σ), fn.fd.scope, []⟩) (s := s) (ρ := ρ) S R (by rw [len_eq]; exact Nat.le_succ _) X1 R1 (fs_push R (by rw [<- eσ, <- ln, len_eq (σ ++ [AO.dict []])]; exact nth_last _ _))
  ⟨rfl, F.kd, hL, F.gl, F.bl, fun x i hx => none_el hx, fa.enter ⟨[s.heap.objs.size, (s.heap.push (dictOf [] 0)).objs.size], by simp⟩ F.kd hL rfl, let ⟨fr, h, _⟩ := fa; ⟨_, fr, Around.frames_deeper h, rfl⟩⟩ (hr.deeper (Nat.le_refl _)) h4 hv
  (QQ := fun x => Q (.ok (.ret x))) (fun ι h => h) (fun ι ι h => h) fun ρ' s' x R X G V => q ρ' s' _ R X G ⟨x, rfl, V⟩
theorem look_delN {x y : Str} {l : List (Str × AV)} {a : AV} : look y (delN x l) = some a -> y ≠ x /\ look y l = some a := by
 induction l with
 | nil => exact fun h => none_el h
 | cons p l ih =>
  intro h
  unfold delN at h
  unfold look
  cases q : seq x p.1 with
  | true =>
   rw [q] at h
   have r := ih h
   rw [show seq y p.1 = false from seq_false.mpr fun z => r.1 (z.trans (seq_iff.mp q).symm)]
   exact r
  | false =>
   rw [q] at h
   unfold look at h
   cases t : seq y p.1 with
   | true =>
    rw [t] at h
    exact ⟨fun z => ff_el (q.symm.trans (z ▸ t)), h⟩
   | false => rw [t] at h; exact ih h
theorem bindL_out {k : Str -> Option NameKind} {y : Str} {b : List (Str × Value)} : ∀ {m : Str -> Option Value}, (∀ p ∈ b, p.1 ≠ y) -> bindL k b m y = m y := by
 induction b with
 | nil => exact fun ι => rfl
 | cons p b ih =>
  intro m h
  have h := List.forall_mem_cons.mp h
  unfold bindL
  rw [ih h.2]
  by_cases hk : k p.1 = some .local
  · rw [if_pos hk]; exact if_neg (Ne.symm h.1)
  · rw [if_neg hk]
theorem bindL_in {k : Str -> Option NameKind} {y : Str} {v : Value} {b : List (Str × Value)} (hk : k y = some .local) : ∀ {m : Str -> Option Value}, (b.map (·.1)).Nodup -> (y, v) ∈ b -> bindL k b m y = some v := by
 induction b with
 | nil => exact fun ι h => nomatch h
 | cons p b ih =>
  intro m hn hm
  rw [List.map_cons, List.nodup_cons] at hn
  unfold bindL
  refine (List.mem_cons.mp hm).elim (fun e => ?_) fun hm => ih hn.2 hm
  rw [<- e, bindL_out fun q hq e2 => hn.1 (by rw [<- (congrArg Prod.fst e : y = p.1), <- (show q.1 = y from e2)]; exact List.mem_map_of_mem (f := (·.1)) hq), if_pos hk]
  exact if_pos rfl
theorem bindC_out {k : Str -> Option NameKind} {y : Str} {b : List (Str × Value)} : ∀ {m : Str -> Option Value}, (∀ p ∈ b, p.1 ≠ y) -> bindC k b m y = m y := by
 induction b with
 | nil => exact fun ι => rfl
 | cons p b ih =>
  intro m h
  have h := List.forall_mem_cons.mp h
  unfold bindC
  rw [ih h.2]
  by_cases hk : k p.1 = some .local
  · rw [if_pos hk]
  · rw [if_neg hk]; exact if_neg (Ne.symm h.1)
theorem bindC_in {k : Str -> Option NameKind} {y : Str} {v : Value} {b : List (Str × Value)} (hk : k y ≠ some .local) : ∀ {m : Str -> Option Value}, (b.map (·.1)).Nodup -> (y, v) ∈ b -> bindC k b m y = some v := by
 induction b with
 | nil => exact fun ι h => nomatch h
 | cons p b ih =>
  intro m hn hm
  rw [List.map_cons, List.nodup_cons] at hn
  unfold bindC
  refine (List.mem_cons.mp hm).elim (fun e => ?_) fun hm => ih hn.2 hm
  rw [<- e, bindC_out fun q hq e2 => hn.1 (by rw [<- (congrArg Prod.fst e : y = p.1), <- (show q.1 = y from e2)]; exact List.mem_map_of_mem (f := (·.1)) hq), if_neg hk]
  exact if_pos rfl
theorem call_cell (L : Lo K) (S : Snd K prog w n r) {f : Addr} {fn : Fn} (F : FnOk K f fn) {x : Str} {l : List (Str × AV)} {σ σ₁ : St} {fl : Fl} {v cv : AV} {ρ : Rho} {A : Around} {us : List Value} {s : Shared}
 (hce : ∀ k, cellsFrom k fn.fd.scope.names [] = [(x, k)]) (hlo : ∀ p ∈ fn.binds, p.1 ≠ x -> fn.fd.scope.names.lookup p.1 = some .local) (hx : fn.fd.scope.names.lookup x = some .cell) (hclo : fn.fd.closure = []) (hbd : bindArgs fn.fd ⟨us, []⟩ = pure (bindsV us [] fn.binds))
 (B : KRs ρ l (bindsV us [] fn.binds)) (hcv : look x l = some cv) (h4 : exsA r ⟨len σ, fn.fd.scope, [(x, Nat.succ (len σ))]⟩ fn.body (σ ++ [.ns (delN x l), .cell cv]) = some (fl, σ₁, true)) (hv : flV fl = some v) (R : Rl K σ ρ s.heap) (fa : FrA A ρ) (hr : Room (n + 1) A) :
 Cd K prog w RtR A s ρ (.call (.ref f) ⟨us, []⟩) v (setNth σ₁ (len σ) .junk) := by
 intro Q q
 obtain ⟨oc, od, sl, ho⟩ := F.at_
 have nd : ((bindsV us [] fn.binds).map (·.1)).Nodup := by rw [bindsV_names]; exact F.nd
 refine codeAny_call_cells (fd := fn.fd) (body := fn.body) (binds := bindsV us [] fn.binds) (by have := hr.1; exact rm_0 ‹_›) (R.gd.kin _ _ ho) rfl R.gd.lim (codeRec_of R.gd.kin F.code) F.body hbd hclo ?_ (fun s₀ I => ?_) F.co F.ge F.kd
 · intro y hy
   obtain ⟨p, hp, rfl⟩ := List.mem_map.mp hy
   by_cases e : p.1 = x
   · refine .inr ⟨by show fn.fd.scope.names.lookup p.1 = _; rw [e]; exact hx, ?_⟩
     rw [hce]
     show (List.lookup p.1 [(x, _)]).isSome = true
     rw [e]; simp
   · exact .inl (hlo p hp e)
 have kind : ∀ y, (callEnvC fn.fd s.heap.objs.size f).kindOf y = fn.fd.scope.names.lookup y := fun y => rfl
 have cs : (callEnvC fn.fd s.heap.objs.size f).cells = [(x, s.heap.objs.size + 1)] := hce _
 obtain ⟨⟨⟨h₀, tk, e0⟩, hns, keep, fresh⟩, cell, _, _⟩ := I
 subst e0
 obtain ⟨cu, hcu, hcvr⟩ := look_KRs B hcv
 have hcell := cell x (s.heap.objs.size + 1) (by rw [cs]; simp)
 rw [bindC_in (by rw [kind, hx]; decide) nd (look_mem hcu)] at hcell
 have hcell : h₀.IsCell (s.heap.objs.size + 1) (some cu) := hcell
 have hns : h₀.Ns s.heap.objs.size (bindL (callEnvC fn.fd s.heap.objs.size f).kindOf (bindsV us [] fn.binds) fun ι => none) := hns
 obtain ⟨o, es, ep, go, ro⟩ := id hns
 have keep : ∀ b o, s.heap.get? b = some o -> h₀.get? b = some o := keep
 have nfo : o.isFreed = false := (Heap.get?_some_iff.mp go).2
 have gm : (s.heap.push o).get? s.heap.objs.size = some o := Heap.get?_push_size _ nfo
 have kmid : ∀ b p, (s.heap.push o).get? b = some p -> h₀.get? b = some p := fun b p g => by
  by_cases e : b = s.heap.objs.size
  · subst e; rw [gm] at g; cases g; exact go
  · refine keep b p ?_
    rw [Heap.get?_push_ne _ _ _ e] at g
    exact g
 have u0 : Up ρ ⟨ρ.l ++ [s.heap.objs.size], ρ.F, ρ.X, ρ.fs⟩ := ⟨⟨_, rfl⟩, .refl _⟩
 obtain ⟨R0, X0, e₀⟩ := R.new L o (.ns (l := delN x l) ⟨o, es, ep, gm, ro⟩ fun y a hy => by
  obtain ⟨ny, hy⟩ := look_delN hy
  obtain ⟨u, hu, hv⟩ := look_KRs B hy
  have hm := look_mem hu
  refine .inr ⟨u, bindL_in ?_ nd hm, hv.up u0⟩
  obtain ⟨p, hp, e⟩ := List.mem_map.mp hm
  have e1 : p.1 = y := congrArg Prod.fst e
  rw [kind, <- e1]
  exact hlo p hp (e1 ▸ ny))
 have u1 : Up ⟨ρ.l ++ [s.heap.objs.size], ρ.F, ρ.X, ρ.fs⟩ ⟨(ρ.l ++ [s.heap.objs.size]) ++ [(s.heap.push o).objs.size], ρ.F, ρ.X, ρ.fs⟩ := ⟨⟨_, rfl⟩, .refl _⟩
 have R1 := R0.push (o := .cell cv) L kmid (get_size _) (.cell (u := some cu) (by rw [push_size]; exact hcell) (.inr ⟨cu, rfl, (hcvr.up u0).up u1⟩))
 have X1 := X0.trans (Ex.push (ρ := ⟨ρ.l ++ [s.heap.objs.size], ρ.F, ρ.X, ρ.fs⟩) kmid (get_size _))
 have eσ : (σ ++ [AO.ns (delN x l)]) ++ [AO.cell cv] = σ ++ [.ns (delN x l), .cell cv] := by simp
 rw [eσ] at R1
 have hL : nth ((ρ.l ++ [s.heap.objs.size]) ++ [(s.heap.push o).objs.size]) (len σ) = some s.heap.objs.size := nth_append_left e₀
 have hC : nth ((ρ.l ++ [s.heap.objs.size]) ++ [(s.heap.push o).objs.size]) (Nat.succ (len σ)) = some (s.heap.push o).objs.size := by
  have : Nat.succ (len σ) = (ρ.l ++ [s.heap.objs.size]).length := by rw [len_eq]; simp [R.len]
  rw [this]; exact nth_last _ _
 exact body_ok (c := ⟨len σ, fn.fd.scope, [(x, Nat.succ (len σ))]⟩) (s := s) (ρ := ρ) S R (by rw [len_eq]; exact Nat.le_refl _) X1 R1 (fs_push R (by rw [<- eσ, len_eq σ]; exact nth_append_left (nth_last _ _))) ⟨rfl, F.kd, hL, F.gl, F.bl, fun y i hy => (by
  have hy : (match seq y x with | true => some (Nat.succ (len σ)) | false => none) = some i := hy
  cases qy : seq y x with
  | false => rw [qy] at hy; exact none_el hy
  | true =>
   rw [qy] at hy
   obtain rfl := Option.some.inj hy
   rw [seq_iff.mp qy, cs]
   exact ⟨s.heap.objs.size + 1, by simp, by rw [hC, push_size]⟩), fa.enter ⟨[s.heap.objs.size, (s.heap.push o).objs.size], by simp⟩ F.kd hL rfl, let ⟨fr, h, _⟩ := fa; ⟨_, fr, Around.frames_deeper h, rfl⟩⟩ (hr.deeper (Nat.le_refl _)) h4 hv
  (QQ := fun x => Q (.ok (.ret x))) (fun ι h => h) (fun ι ι h => h) fun ρ' s' x R X G V => q ρ' s' _ R X G ⟨x, rfl, V⟩
theorem Rl.addOut {σ : St} {ρ : Rho} {h : Heap} {b : Addr} {o : AO} (R : Rl K σ ρ h) (O : Out K σ ρ b) (q : OR ⟨ρ.l ++ [b], ρ.F, ρ.X, ρ.fs⟩ h b o) : Rl K (σ ++ [o]) ⟨ρ.l ++ [b], ρ.F, ρ.X, ρ.fs⟩ h := by
 have u : Up ρ ⟨ρ.l ++ [b], ρ.F, ρ.X, ρ.fs⟩ := ⟨⟨[b], rfl⟩, .refl _⟩
 have cs : ∀ {i c p}, nth (ρ.l ++ [b]) i = some c -> nth (σ ++ [o]) i = some p -> (nth ρ.l i = some c /\ nth σ i = some p) \/ (i = ρ.l.length /\ c = b /\ p = o) := fun e f => by
  rcases nth_append_inv e with e | ⟨ei, eb⟩
  · rcases nth_append_inv f with f | ⟨fi, _⟩
    · exact .inl ⟨e, f⟩
    · have := nth_len e
      rw [fi, R.len] at this
      exact absurd this (Nat.lt_irrefl _)
  · rcases nth_append_inv f with f | ⟨_, fp⟩
    · have := nth_len f
      rw [ei, R.len] at this
      exact absurd this (Nat.lt_irrefl _)
    · exact .inr ⟨ei, eb, fp⟩
 have old : ∀ {i c p}, nth ρ.l i = some c -> nth σ i = some p -> shut p = false -> c ≠ b := fun e f s w => by
  rw [O.s _ _ (w ▸ e) f] at s; cases s
 refine ⟨R.gd, by simp [R.len], fun i j c p t e f g g' s v => ?_, fun i c p e f s => ?_, fun i c p e f => ?_, R.fin, R.xin, fun i c p e f s => ?_, R.fx, R.jt, (fun i m => let ⟨l, e⟩ := R.fr i m; ⟨l, nth_append_left e⟩), R.pj⟩
 · rcases cs e g with ⟨e2, g2⟩ | ⟨i1, b1, p1⟩
   · rcases cs f g' with ⟨f2, t2⟩ | ⟨i2, b2, p2⟩
     · exact R.nd _ _ _ _ _ e2 f2 g2 t2 s v
     · exact absurd b2 (old e2 g2 s)
   · rcases cs f g' with ⟨f2, t2⟩ | ⟨i2, _, _⟩
     · exact absurd b1 (old f2 t2 v)
     · rw [i1, i2]
 · rcases cs e f with ⟨e, f⟩ | ⟨rfl, rfl, rfl⟩
   · exact R.lo _ _ _ e f s
   · exact O.l
 · rcases cs e f with ⟨e, f⟩ | ⟨rfl, rfl, rfl⟩
   · exact (R.ob i c p e f).move u fun ι e => e
   · exact q
 · rcases cs e f with ⟨e, f⟩ | ⟨rfl, rfl, rfl⟩
   · exact R.fz i c p e f s
   · exact ⟨O.f, O.x⟩
theorem Rl.push2 {σ : St} {ρ : Rho} {h h' : Heap} {a b : Addr} {o p : AO} (L : Lo K) (R : Rl K σ ρ h) (k : ∀ b o, h.get? b = some o -> h'.get? b = some o) (za : h.get? a = none) (zb : h.get? b = none) (ne : b ≠ a)
 (qa : OR ⟨ρ.l ++ [a], ρ.F, ρ.X, ρ.fs⟩ h' a o) (qb : OR ⟨(ρ.l ++ [a]) ++ [b], ρ.F, ρ.X, ρ.fs⟩ h' b p) : Rl K (σ ++ [o, p]) ⟨(ρ.l ++ [a]) ++ [b], ρ.F, ρ.X, ρ.fs⟩ h' /\ Ex ρ h ⟨(ρ.l ++ [a]) ++ [b], ρ.F, ρ.X, ρ.fs⟩ h' := by
 have R1 := R.push L k za qa
 have O := R.out zb
 have O1 : Out K (σ ++ [o]) ⟨ρ.l ++ [a], ρ.F, ρ.X, ρ.fs⟩ b := by
  refine ⟨O.f, O.x, O.l, fun i q e f => ?_⟩
  rcases nth_append_inv e with e | ⟨_, e⟩
  · rcases nth_append_inv f with f | ⟨fi, _⟩
    · exact O.s i q e f
    · have := nth_len e
      rw [fi, R.len] at this
      exact absurd this (Nat.lt_irrefl _)
  · exact absurd e ne
 have R2 := R1.addOut O1 qb
 rw [show (σ ++ [o]) ++ [p] = σ ++ [o, p] from by simp] at R2
 refine ⟨R2, ⟨[a, b], by simp, fun c hc => ?_⟩, .refl _, rfl, rfl, fun c q e ι ι => k c q e, fun vs e => ⟨#[], by simp [k _ _ e]⟩⟩
 rcases List.mem_cons.mp hc with rfl | hc
 · exact .inr (.inr za)
 · rw [List.mem_singleton] at hc; subst hc; exact .inr (.inr zb)
structure Near (A A' : Around) : Prop where
 ha : A'.handled = A.handled
 fr : A'.frames = A.frames
 de : A'.depth <= A.depth + 1
 un : A'.units <= A.units + 6
theorem Near.room {A A' : Around} {n m : Nat} (x : Near A A') (h : Room n A) (hm : m + 1 <= n) : Room m A' := ⟨by have := h.1; have := x.de; lia, by have := h.2.1; have := x.un; lia, x.ha.trans h.2.2⟩
theorem Near.fa {A A' : Around} {ρ : Rho} (x : Near A A') (f : FrA A ρ) : FrA A' ρ := let ⟨l, h, k⟩ := f; ⟨l, x.fr.trans h, k⟩
noncomputable def MkOk (K : Frag) (prog : Program) (w : World) (C f : Addr) : Prop :=
 ∀ {A : Around} {R : Result -> Shared -> Prop} {s : Shared} {rest : List Value} {kw : List (Str × Value)}, Gd K s.heap -> Room 10 A -> (C = 754 -> ∃ v, rest = [v] /\ kw = []) ->
  (∀ A' h' tk x dx, Near A A' -> (∀ b o, s.heap.get? b = some o -> h'.get? b = some o) -> s.heap.get? x = none -> s.heap.get? dx = none -> x ≠ dx -> dx ≠ sysModules -> h'.get? dx = some emptyDict -> h'.get? x = some (instObj C dx) ->
   codeAny (model prog w) A' (.call (.ref f) ⟨.ref x :: rest, kw⟩) (InitBack x R) { s with heap := h', toks := tk }) ->
  codeAny (model prog w) A (.call (.ref C) ⟨rest, kw⟩) R s
theorem tcall_units (C : Addr) (rest : List Value) (kw : List (Str × Value)) : (Code.builtin "type.__call__" ⟨.ref C :: rest, kw⟩).cUnits <= 3 := Nat.le_of_ble_eq_true rfl
theorem tcall_near (A : Around) (C : Addr) (rest : List Value) (kw : List (Str × Value)) : Near A (A.under (.builtin "type.__call__" ⟨.ref C :: rest, kw⟩)) :=
 ⟨rfl, rfl, Nat.le_of_eq rfl, by have := tcall_units C rest kw; show A.units + _ <= _; lia⟩
theorem mk_plain {C f : Addr} (hm : makesIn K C = true) (hi : findIn K (.ref C) "__init__" = some (some (.ref f))) (hf : typeIn K (.ref f) = some (.type "function")) : MkOk K prog w C f := by
 intro A R s rest kw G hr _ h
 obtain ⟨hh, g, d, t, os⟩ := s
 have X := G.kin
 refine make_core (makes_of X hm) (looks_findIn X hi) (fun self => bind_fn X self hf) (.inl rfl) ?_
 have ne : hh.objs.size + 1 ≠ hh.objs.size := Nat.succ_ne_self _
 have z1 : hh.get? (hh.objs.size + 1) = none := by
  cases e : hh.get? (hh.objs.size + 1) with
  | none => rfl
  | some o => exact absurd (Heap.lt_size e) (Nat.not_lt.mpr (Nat.le_succ _))
 have g1 : ((hh.push emptyDict).push (instObj C hh.objs.size)).get? (hh.objs.size + 1) = some (instObj C hh.objs.size) := by
  have := Heap.get?_push_size (hh.push emptyDict) (o := instObj C hh.objs.size) rfl
  rw [push_size] at this; exact this
 exact h _ _ t _ _ (tcall_near ..) (fun b o e => push_keep _ _ _ _ (push_keep _ _ _ _ e)) z1 (get_size hh) ne G.sys (push_keep _ _ _ _ (Heap.get?_push_size _ rfl)) g1
structure Hyp2 (K : Frag) (prog : Program) (w : World) (T : Tp) : Prop where
 mak : ∀ C f, nlook C T.cls = some f -> MkOk K prog w C f
 keep : ∀ C f, nlook C T.cls = some f -> keepIn K (.ref C) = true
theorem ent_eq {e : DictEntry} {k v : Value} (hk : e.key = k) (hv : e.val = v) : e = ⟨e.hash, k, v⟩ := hk ▸ hv ▸ rfl
theorem DR.three {ρ : Rho} {p q r : Str × AV} {es : List DictEntry} (D : DR ρ [p, q, r] es) : ∃ e1 e2 e3 t1 t2 t3, es = [e1, e2, e3] /\ e1.key = .str p.1 t1 /\ e2.key = .str q.1 t2 /\ e3.key = .str r.1 t3 /\ VR ρ p.2 e1.val /\ VR ρ q.2 e2.val /\ VR ρ r.2 e3.val := by
 obtain ⟨e1, _, t1, rfl, k1, v1, D⟩ := D.out
 obtain ⟨e2, _, t2, rfl, k2, v2, D⟩ := D.out
 obtain ⟨e3, _, t3, rfl, k3, v3, D⟩ := D.out
 exact ⟨e1, e2, e3, t1, t2, t3, by rw [show _ = [] from D.out], k1, k2, k3, v1, v2, v3⟩
theorem threeV_inv {α : Type} {l : List α} {p : α × α × α} (h : threeV l = some p) : l = [p.1, p.2.1, p.2.2] := by
 cases l with
 | nil => exact none_el h
 | cons b l => exact bnd_el h fun c h1 h => by rw [twoV_inv h1, <- Option.some.inj h]
theorem siO_sd {ρ : Rho} {l : List (Str × AV)} {es : List DictEntry} {s : Str} (h : siO l = some s) (sm : small s = true) (D : DR ρ l es) : SD s.cps.toList es :=
 bnd_el h fun q h1 h => gd_el h fun hn h => bnd_el h fun nl h2 h => bnd_el h fun b h3 h => bnd_el h fun n h4 h => gd_el h fun h5 h => and_el hn fun ea hn => and_el hn fun eb ec => by
  obtain rfl := Option.some.inj h
  rw [threeV_inv h1] at D
  obtain ⟨e1, e2, e3, t1, t2, t3, e, k1, k2, k3, v1, v2, v3⟩ := D.three
  rw [strV_inv h2] at v1
  rw [strV_inv h3] at v2
  rw [natV_inv h4, Nat.eq_of_beq_eq_true h5] at v3
  obtain ⟨u1, v1⟩ := v1
  obtain ⟨u2, v2⟩ := v2
  obtain ⟨u3, v3⟩ := v3
  rw [seq_iff.mp ea] at k1
  rw [seq_iff.mp eb] at k2
  rw [seq_iff.mp ec] at k3
  exact ⟨nl, b, 0, t1, u1, t2, u2, t3, u3, _, _, _, by rw [e, ent_eq k1 v1, ent_eq k2 v2, ent_eq k3 v3]; rfl, rfl, Nat.zero_le _, small_ok sm⟩
theorem newE_ok {C k : Nat} {σ σ' : St} {v : AV} {ρ : Rho} {x : Addr} {s : Shared} {ρ₀ : Rho} {s₀ : Shared} {QQ : Value -> Shared -> Prop} (h : newE C k σ = some (v, σ', true)) (R : Rl K σ ρ s.heap) (hx : nth ρ.l (Nat.succ k) = some x) (X : Ex ρ₀ s₀.heap ρ s.heap) (G : Gs s₀ s) (q : Kt K VR s₀ ρ₀ QQ v σ') : QQ (.ref x) s :=
 pk2_el h (fun ι h => bnd_el h fun l hl h => bnd_el h fun b hs h => chk_el h fun sm h => by
  have hl := dictOfA_eq hl
  refine ok_q h q ρ s _ (R.say (fun a' o ha ho => ?_) fun mi => absurd mi (R.nofs hl nofun)) X G ⟨x, hx, rfl⟩
  obtain rfl := Option.some.inj (hl.symm.trans ho)
  obtain ⟨es, m, g, D, sy⟩ := (R.ob _ _ _ ha hl).out
  exact ⟨.sdict g (siO_sd hs sm D) sy, fun ι => rfl⟩) fun ι h => ok_q h q ρ s _ R X G ⟨x, hx, rfl⟩
theorem new_ok (L : Lo K) (S : Snd K prog w n r) (H2 : Hyp2 K prog w T) (hn : 10 <= n) {C : Addr} {vs : List AV} {ks : List (Str × AV)} {σ σ' : St} {v : AV} {ρ : Rho} {A : Around} {us : List Value} {uks : List (Str × Value)} {s : Shared}
 (h : newA T r C vs ks σ = some (v, σ', true)) (R : Rl K σ ρ s.heap) (V : VRs ρ vs us) (W : KRs ρ ks uks) (fa : FrA A ρ) (hr : Room (n + 1) A) : Cd K prog w RtR A s ρ (.call (.ref C) ⟨us, uks⟩) v σ' := fun Q q =>
 gd_el h fun h0 h => bnd_el h fun f h1 h => bn2_el h fun v1 σ₁ h2 h => gd_el h fun h3 hE => by
  refine H2.mak C f h1 R.gd (hr.le (Nat.le_succ_of_le hn)) (fun e => ?_) fun A' h' tk x dx nr kp zx zd ne nsy gd gx => ?_
  · refine or_el h0 (fun z => absurd (not_el z) (by rw [e]; decide)) fun z => and_el z fun z1 z2 => ?_
    refine isNil_ks (C := fun uks => ∃ v, us = [v] /\ uks = []) z2 W ?_
    cases vs with
    | nil => exact ff_el z1
    | cons a vs => cases vs with
     | nil => exact V.one fun u ι => ⟨u, rfl, rfl⟩
     | cons => exact ff_el z1
  have hd : nth ((ρ.l ++ [dx]) ++ [x]) (len σ) = some dx := nth_append_left (by rw [len_eq, <- R.len]; exact nth_last _ _)
  have hx : nth ((ρ.l ++ [dx]) ++ [x]) (Nat.succ (len σ)) = some x := by
   rw [show Nat.succ (len σ) = (ρ.l ++ [dx]).length by rw [len_eq]; simp [R.len]]; exact nth_last _ _
  obtain ⟨R1, X1⟩ := R.push2 L kp zd zx ne (o := .dict []) (p := .inst C (len σ)) (.dict (es := []) (n := 0) gd .nil nsy) (.inst hd gx)
  refine S.call (s := { s with heap := h', toks := tk }) (us := .ref x :: us) h2 R1 (.cons ⟨x, hx, rfl⟩ (V.ex X1)) (W.ex X1) (nr.fa (fa.ex X1)) (nr.room hr (Nat.le_refl _)) _ fun ρ2 s2 u R2 X2 G2 V2 => ?_
  obtain ⟨y, e, V2⟩ := V2
  cases v1 with
  | none =>
   rw [e, show y = .none from V2]
   exact ⟨rfl, newE_ok (QQ := fun y => Q (.ok (.ret y))) hE R2 (nth_ex X2 hx) (X1.trans X2) ((Gs.ht s h' tk).trans G2) fun ρ' s' x R X G V => q ρ' s' _ R X G ⟨x, rfl, V⟩⟩
  | _ => exact ff_el h3
structure Tn (fl : List Addr) (h h' : Heap) : Prop where
 keep : ∀ b o, h.get? b = some o -> b ∉ fl -> h'.get? b = some o
 turn : ∀ b o, h.get? b = some o -> b ∈ fl -> ∃ sl, h'.get? b = some { o with slots := sl }
noncomputable def FlOk (ρ : Rho) (fl : List Addr) : Prop := ∀ b ∈ fl, ∃ i, i ∈ ρ.fs /\ nth ρ.l i = some b
theorem Rl.turn {σ : St} {ρ : Rho} {h h' : Heap} {fl : List Addr} (L : Lo K) (R : Rl K σ ρ h) (f : FlOk ρ fl) (t : Tn fl h h') : Rl K σ ρ h' /\ Ex ρ h ρ h' := by
 have low : ∀ b, Low K b -> b ∉ fl := fun b l m => by
  obtain ⟨i, hi, hb⟩ := f b m
  obtain ⟨ln, e⟩ := R.fr i hi
  exact R.lo i b _ hb e rfl l
 have nf : ∀ b, b ∈ fl -> ρ.F b = none /\ ρ.X b = none := fun b m => by
  obtain ⟨i, hi, hb⟩ := f b m
  obtain ⟨ln, e⟩ := R.fr i hi
  exact R.fz i b _ hb e rfl
 have pj : PJ ∉ fl := low _ (.inr (.inr (.inr (.inr rfl))))
 refine ⟨⟨R.gd.keeps L fun b o l ι e => t.keep b o e (low b l), R.len, R.nd, R.lo, fun i a o e g => ?_, (fun b o e => t.keep b o (R.fin b o e) fun m => by rw [(nf b m).1] at e; exact none_el e), (fun b o e => t.keep b o (R.xin b o e) fun m => by rw [(nf b m).2] at e; exact none_el e), R.fz, R.fx, R.jt.move (.refl _) fun o e => t.keep _ o e pj, R.fr, R.pj⟩,
  ⟨⟨[], by simp, nofun⟩, .refl _, rfl, rfl, (fun b o e n ι => t.keep b o e fun m => by obtain ⟨i, _, hb⟩ := f b m; exact n (nth_mem hb)), fun vs e => ⟨#[], by simp [t.keep _ _ e pj]⟩⟩⟩
 cases q : shut o with
 | true => exact (R.ob i a o e g).shutUp q (.refl _)
 | false =>
  by_cases m : a ∈ fl
  · obtain ⟨j, hj, hb⟩ := f a m
    obtain ⟨ln, ej⟩ := R.fr j hj
    have := R.nd _ _ _ _ _ e hb g ej q rfl
    subst this
    rw [g] at ej; obtain rfl := Option.some.inj ej
    obtain ⟨_, hn, hf⟩ := (R.ob i a _ e g).out
    obtain ⟨o, es, ep, go, hd, rr⟩ := hn
    obtain ⟨sl, hs⟩ := t.turn a o go m
    exact .ns ⟨_, es, ep, hs, hd, rr⟩ hf
  · exact (R.ob i a o e g).move (.refl _) fun p e => t.keep a p e m
theorem calm_nc {σ : St} {ρ : Rho} {h : Heap} (R : Rl K σ ρ h) (e : calm σ = false) : 0 ∉ ρ.fs := fun m => by
 obtain ⟨l, z⟩ := R.fr 0 m
 exact ff_el (e.symm.trans (by unfold calm nsOf; rw [z]; rfl))
theorem frames_ok {A : Around} {σ : St} {ρ : Rho} {h : Heap} (R : Rl K σ ρ h) (fa : FrA A ρ) (nc : 0 ∉ ρ.fs) {l : List Env} (hl : A.frames = some l) : FlOk ρ (l.filterMap (·.frame)) /\ h.FunFrames (hideAll h (l.filterMap (·.frame))) l := by
 obtain ⟨l', h', k⟩ := fa
 rw [hl] at h'; obtain rfl := Option.some.inj h'
 constructor
 · intro b hb
   obtain ⟨env, he, hf⟩ := List.mem_filterMap.mp hb
   obtain ⟨_, z | ⟨i, L, hi, hL, hf'⟩⟩ := k env he
   · exact absurd z nc
   rw [hf] at hf'; obtain rfl := Option.some.inj hf'
   exact ⟨i, hi, hL⟩
 · have : ∀ (as : List Addr) (m : List Env), (∀ env ∈ m, env ∈ l) -> (∀ env ∈ m, ∀ a, env.frame = some a -> a ∈ as) -> h.FunFrames (hideAll h as) m := by
    intro as m
    induction m with
    | nil => intro _ _; trivial
    | cons env m ih =>
     intro hm ha
     obtain ⟨hk, z | ⟨i, L, hi, hL, hf⟩⟩ := k env (hm env (.head _))
     · exact absurd z nc
     obtain ⟨ln, e⟩ := R.fr i hi
     obtain ⟨_, hn, _⟩ := (R.ob i L _ hL e).out
     obtain ⟨o, es, ep, go, hd, rr⟩ := hn
     exact ⟨hk, ⟨L, o, hf, hideAll_none _ (ha env (.head _) L hf), go, fun vs q => by rw [hd] at q; cases q⟩, ih (fun env he => hm env (.tail _ he)) fun env he => ha env (.tail _ he)⟩
   exact this _ l (fun ι h => h) fun env he a hf => List.mem_filterMap.mpr ⟨env, he, hf⟩
theorem frames_nf {h base : Heap} {l : List Env} (ff : h.FunFrames base l) : ∀ b ∈ l.filterMap (·.frame), ∀ o, h.get? b = some o -> ∀ vs, o.data ≠ .fields vs := fun b hb o g => by
 obtain ⟨_, o', go, hn⟩ := ff.mem hb
 rw [g] at go; cases go; exact hn
theorem tn_of {fl : List Addr} {h h' : Heap} (b : (hideAll h fl).StaysIn h') (u : h.UpToSlots h') (nf : ∀ b ∈ fl, ∀ o, h.get? b = some o -> ∀ vs, o.data ≠ .fields vs) : Tn fl h h' :=
 ⟨fun c o e n => b c o (hideAll_get _ e n), fun c o e m => u c o e (nf c m o e)⟩
theorem noteFrame_eq {e : Value} {env env' : Env} (h : env.frame = env'.frame) : noteFrame e env = noteFrame e env' := by
 unfold noteFrame PySem.frameOf; rw [h]
theorem note_new {A : Around} {E : Value -> Shared -> Prop} {σ : St} {ρ : Rho} {s s₁ : Shared} {env e0 : Env} {l : List Env} {X : String} {e : Addr} {Q : Unit -> Shared -> Prop} (L : Lo K) (R : Rl K σ ρ s.heap) (fa : FrA A ρ) (nc : 0 ∉ ρ.fs) (hl : A.frames = some (e0 :: l)) (he0 : e0.frame = env.frame) (hx : Heap.NewExc s.heap s₁.heap e X)
 (q : ∀ a0 h', Heap.FlyingW (hideAll s.heap ((e0 :: l).filterMap (·.frame))) (e0 :: l) e (.type X) a0 h' -> s.heap.UpToSlots h' -> Tn ((e0 :: l).filterMap (·.frame)) s.heap h' -> Q () { s₁ with heap := h' }) :
 wpAny (model prog w) A (noteFrame (.ref e) env) (fun ι s2 => wpAny (model prog w) A (setFlight (.ref e) none) Q E s2) E s₁ := by
 obtain ⟨fo, ff⟩ := frames_ok R fa nc hl
 obtain ⟨ob, t, ho, hc, hd⟩ := hx.there
 have st : (hideAll s.heap ((e0 :: l).filterMap (·.frame))).StaysIn s.heap := fun b o e => of_hideAll _ e
 have st1 : (hideAll s.heap ((e0 :: l).filterMap (·.frame))).StaysIn s₁.heap := fun b o e => hx.keeps b o (st b o e)
 have hen : (hideAll s.heap ((e0 :: l).filterMap (·.frame))).get? e = none := by
  cases g : (hideAll s.heap ((e0 :: l).filterMap (·.frame))).get? e with
  | none => rfl
  | some o => have := hx.new; rw [st _ _ g] at this; cases this
 have ff1 := ff.of_keeps (h' := s₁.heap) fun b o hb ι => ⟨o, hx.keeps b o hb, rfl⟩
 have nf : ∀ b ∈ (e0 :: l).filterMap (·.frame), ∀ o, s.heap.get? b = some o -> ∀ vs, o.data ≠ .fields vs := fun b hb o g => by
  obtain ⟨_, o', go, hn⟩ := ff.mem hb
  rw [g] at go; cases go; exact hn
 obtain ⟨hk0, ⟨L0, o0, hf0, _⟩, _⟩ := id ff
 rw [noteFrame_eq he0.symm]
 unfold noteFrame
 simp only [hf0]
 refine wpAny_bind (wpAny_field ho hd (x := .none) rfl ?_)
 rw [if_neg (by decide)]
 refine wpAny_entryW (a0 := t) hl ff1 hf0 ho st1 hen hd (by simp) rfl fun h' hN => ?_
 obtain ⟨k1, k2, k3, k4⟩ := hN
 refine wpAny_landsW (base := hideAll s.heap ((e0 :: l).filterMap (·.frame))) (l := e0 :: l) (cls := .type X) (a0 := t) (L := L0) ⟨k1, hen, k2, hc ▸ k3⟩ fun h'' hfl hu => ?_
 exact q t h'' hfl (((Heap.UpToSlots.of_keeps hx.keeps).trans k4).trans hu) (tn_of hfl.1 (((Heap.UpToSlots.of_keeps hx.keeps).trans k4).trans hu) nf)
theorem swaps_no {x : Expr} (h : isCompr x = false) (t : Option Expr) (l : Nat) (env : Env) : swapsWith x t l env = pure false := by
 cases x <;> first | rfl | exact ff_el h.symm
theorem inter_no {A : Around} {c : Cx} {ρ : Rho} {env : Env} (e : EnvR A c ρ env) : interactive env = false := by
 unfold interactive; rw [e.sc, e.fn]; rfl
theorem EnvR.mark {A : Around} {c : Cx} {ρ : Rho} {env : Env} {v : Option Value} (e : EnvR A c ρ env) : EnvR (A.mark v) c ρ env := ⟨e.sc, e.fn, e.loc, e.gl, e.bl, e.ce, e.fa, e.hd⟩
theorem callNN_ok (hT : TOk K T) (H : Hyp K prog w T) {c : Cx} {o x y : Str} {po ap py p : Pos} {σ : St} {σ₁ σ2 : St} {a b : AV} {m : MK} {ρ : Rho} {A : Around} {E : Value -> Shared -> Prop} {env : Env} {s : Shared} {Q : Value -> Shared -> Prop}
 (g2 : Nat.beq ap.endLine p.line = true) (h1 : nameA T c o σ = some (a, σ₁, true)) (h2 : findM T a x σ = some m) (h3 : nameA T c y σ = some (b, σ2, true)) (R : Rl K σ ρ s.heap) (e : EnvR A c ρ env)
 (q : ∀ f first u, Callee K T ρ m f first -> VR ρ b u -> wpAny (model prog w) A (call f (first ++ [u])) Q E s) : wpAny (model prog w) A (eval (.Call (.Attribute (.Name o po) x ap) [.Name y py] [] p) env) Q E s := by
 have line : (ap.endLine == p.line) = true := by rw [Nat.eq_of_beq_eq_true g2]; simp
 refine methodCall_KW (pl := do return (<- importBound (.Name o po) env).getD true) ?_ (by
  rw [arm_eval_Call, notSuper_ok rfl]
  unfold methodCall calleeOf methodCallPos
  have form : methodCallForm ([Expr.Name y py].length + ([] : List Keyword).length) (backTo p (starEach [Expr.Name y py] env)) (backToKw p (keywordEach [] env)) = true := by rfl
  simp only [form, line, if_true, Bool.not_true, Bool.false_or, pure_bind])
 refine (name_exact hT h1 R e).2 _ _ fun u1 V1 => ?_
 refine findM_ok hT H h2 R V1 fun f l C => ?_
 refine callWith_of (P := KeepP K f) rfl C.keeper (evalArgs_gen rfl rfl ?_)
 refine wpAny_items_cons ((name_exact hT h3 R e).2 _ _ fun u2 V2 => wpAny_items_nil (wpAny_evalAll_nil ⟨keepP_of R f, ?_⟩))
 exact q f l u2 C V2
theorem remove_none {A : Around} {E : Value -> Shared -> Prop} {s : Shared} {σ : St} {ρ : Rho} {i : Nat} {a : Addr} {l : List PyData} {d : PyData} {u : Value} {Q : Value -> Shared -> Prop} (R : Rl K σ ρ s.heap) (ha : nth ρ.l i = some a) (hi : nth σ i = some (.list l)) (hk : remP d l = none) (D : FR ρ.F d u) (s1 : shp d = true) (s2 : shp (.list l) = true) (hu : A.units + 66 < cLine) (hh : A.handled = none)
 (q : ∀ h' tk e, Heap.NewExc s.heap h' e "ValueError" -> E (.ref e) { s with heap := h', toks := tk }) : wpAny (model prog w) A (call (.builtin "list.remove") [.ref a, u]) Q E s := by
 obtain ⟨vs, n, g, W⟩ := (R.ob i a _ ha hi).out
 have eqs := eqTo_at (A := A) R.fin W D s1 s2 hu
 refine call_meets F.slot_list_remove ⟨_, g, rfl⟩ F.entry_list_remove (F.args_list_remove_2 _ _) (list_remove_noneAt a ⟨vs⟩ n u (eqTo ρ.F d) ?_) ⟨g, eqs, hh, q⟩
 intro m hm
 obtain ⟨y, hy, fy⟩ := W.mem vs[m] (List.getElem_mem _)
 have : (⟨vs⟩ : Array Value)[m] = vs[m] := by simp
 rw [this, eqTo_eq fy]
 exact remP_none hk y hy
theorem ve_sub : isSubtype (.type "ValueError") (.type "BaseException") = pure true := by rw [isSubtype_type]; kernel_rfl
theorem ve_self : isSubtype (.type "ValueError") (.type "ValueError") = pure true := by rw [isSubtype_type]; kernel_rfl
set_option maxRecDepth 100000 in
theorem ve_nt : isSubtype (.type ((Manifest.find? "ValueError").elim "type" fun x => x.metatype)) (.type "tuple") = pure false := by
 have : (Manifest.find? "ValueError").elim "type" (fun x => x.metatype) = "type" := by decide +kernel
 rw [this, isSubtype_type]; kernel_rfl
@[elab_as_elim] theorem Callee.rm {ρ : Rho} {i : Nat} {f : Value} {l : List Value} {P : Value -> List Value -> Prop} (C : Callee K T ρ (.remove i) f l) (k : ∀ a, nth ρ.l i = some a -> P (.builtin "list.remove") [.ref a]) : P f l := by
 cases C with
 | remove h => exact k _ h
@[elab_as_elim] theorem Callee.ap {ρ : Rho} {i : Nat} {f : Value} {l : List Value} {P : Value -> List Value -> Prop} (C : Callee K T ρ (.append i) f l) (k : ∀ a, nth ρ.l i = some a -> P (.builtin "list.append") [.ref a]) : P f l := by
 cases C with
 | append h => exact k _ h
theorem try_ok (hT : TOk K T) (L : Lo K) (H : Hyp K prog w T) {c : Cx} {o o2 x x2 y y2 ex : Str} {po po2 ap ap2 py py2 p p2 pe pb hpos pos ps : Pos} {f : String} {i j : Nat} {d l m : List PyData} {σ σ' σ₁ σ2 σ3 σ4 : St} {v : Fl} {ρ : Rho} {A : Around} {env : Env} {s : Shared} (hr : Room 10 A)
 (e1 : seq x s_remove = true) (e2 : seq x2 s_append = true) (e3 : seq y y2 = true) (g1 : Nat.beq ap.endLine p.line = true) (g2 : Nat.beq ap2.endLine p2.line = true) (hf : leq (strN f) (strN "ValueError") = true)
 (h0 : nameA T c ex σ = some (.raw (.type f), σ₁, true)) (h1 : nameA T c o σ = some (.ref i, σ2, true)) (h2 : nameA T c o2 σ = some (.ref j, σ3, true)) (h3 : nameA T c y σ = some (.dat (.tuple d), σ4, true)) (hi : nth σ i = some (.list l)) (hj : nth σ j = some (.list m)) (fl : fit l = true) (s1 : shp (.tuple d) = true) (s2 : shp (.list l) = true)
 (h : tryA i j (.tuple d) l σ (remP (.tuple d) l) = some (v, σ', true)) (nc : 0 ∉ ρ.fs) (R : Rl K σ ρ s.heap) (e : EnvR A c ρ env) :
 Wp K prog w FlR A s ρ (exec (.Try [.Expr (.Call (.Attribute (.Name o po) x ap) [.Name y py] [] p) ps] [.ExceptHandler (some (.Name ex pe)) none [.Expr (.Call (.Attribute (.Name o2 po2) x2 ap2) [.Name y2 py2] [] p2) pb] hpos] [] [] pos) env) v σ' := by
 have e1 := seq_iff.mp e1
 have e2 := seq_iff.mp e2
 have e3 := seq_iff.mp e3
 have hf := strN_ok hf
 subst e1; subst e2; subst e3; subst hf
 have hu : A.units + 66 < cLine := by have := hr.2.1; exact rm_1 ‹_› rfl
 have fm1 : findM T (.ref i) s_remove σ = some (.remove i) := by
  show findO T σ i s_remove (nth σ i) = _
  rw [hi]; kernel_rfl
 have fm2 : findM T (.ref j) s_append σ = some (.append j) := by
  show findO T σ j s_append (nth σ j) = _
  rw [hj]; kernel_rfl
 intro Q E q
 refine wpAny_Try_except (wpAny_execs_cons (wpAny_Expr_any (callNN_ok hT H g1 h1 fm1 h3 R e fun fv first u C V => ?_) (inter_no e) (swaps_no rfl _ _ _)))
 refine C.rm fun a ha => ?_
 · cases hk : remP (.tuple d) l with
   | some k =>
    rw [hk] at h
    have q := ok_q (show ok Fl.next (setNth σ i (.list k)) = some (v, σ', true) from h) q
    exact remove_some L R ha hi hk V fl s1 s2 hu fun h' R2 X2 => wpAny_execs_nil (wpAny_execs_nil (q ρ _ _ R2 X2 (.hh _ _) .next))
   | none =>
    rw [hk] at h
    refine bnd_el h fun m' hm h => chk_el h fun fm h => ?_
    have q := ok_q h q
    refine remove_none R ha hi hk V s1 s2 hu hr.2.2 fun h₁ tk xc hx => ?_
    obtain ⟨e0, lf, hl, he0⟩ := e.hd
    obtain ⟨fo, ff⟩ := frames_ok R e.fa nc hl
    refine note_new (s := s) (s₁ := { s with heap := h₁, toks := tk }) L R e.fa nc hl he0 hx fun a0 h₂ hfl ut tn => ?_
    obtain ⟨R2, X2⟩ := R.turn L fo tn
    obtain ⟨ob, hob, hobc⟩ := hfl.there
    refine wpAny_handleBy_builtin (X := "ValueError") (T := "ValueError") (b := true) ve_sub ve_nt ve_self ?_
    refine (name_exact (s := { s with heap := h₂, toks := tk }) hT h0 R2 (e.ex X2).mark).2 _ _ fun c' Vc => ?_
    rw [show c' = .type "ValueError" from Vc]
    refine ⟨rfl, ⟨ob, hob, hobc⟩, ?_⟩
    rw [if_pos rfl]
    refine lands_againW hfl fun h₃ hfl3 hu3 => ?_
    obtain ⟨R3, X3⟩ := R.turn L fo (tn_of hfl3.1 (ut.trans hu3) (frames_nf ff))
    refine wpAny_execs_cons (wpAny_Expr_any (callNN_ok (s := { s with heap := h₃, toks := tk }) hT H g2 h2 fm2 h3 R3 (e.ex X3).mark fun fv2 first2 u2 C2 V2 => ?_) (inter_no e) (swaps_no rfl _ _ _))
    exact C2.ap fun b hb => append_ok (s := { s with heap := h₃, toks := tk }) L R3 hb (lsO_inv hm) V2 fm fun h4 R4 X4 => wpAny_execs_nil (q ρ _ _ R4 (X3.trans X4) (.ht _ _ _) .next)
noncomputable def KpOk (K : Frag) (prog : Program) (w : World) : Prop := ∀ h, K.In h -> ∃ k, (k = Keeper.frame \/ k = Keeper.machine \/ k = Keeper.boundFrame) /\ Looks (model prog w) h (keeperOf (.ref 909)) k
noncomputable def FSrOk (K : Frag) (prog : Program) (w : World) (x : Str) (b : Bool) : Prop :=
 ∀ {A : Around} {E : Value -> Shared -> Prop} {s : Shared} {t : Tok} {Q : Value -> Shared -> Prop}, K.In s.heap ->
  (match b with
   | false => ∀ tk, Q .none { s with toks := tk }
   | true => ∀ h' tk m, (∀ c o, s.heap.get? c = some o -> h'.get? c = some o) -> s.heap.get? m = none -> Q (.ref m) { s with heap := h', toks := tk }) ->
  wpAny (model prog w) A (call (.ref 909) [.str x t]) Q E s
structure Hyp3 (K : Frag) (prog : Program) (w : World) (T : Tp) : Prop where
 h : Hyp K prog w T
 h2 : Hyp2 K prog w T
 so : SortOk K prog w
 de : DeqOk K prog w
 bd : ∀ f l fn, nlook f T.fns = some l -> fn ∈ l -> keepIn K (.ref f) = true
 fu : KpOk K prog w /\ ∀ l x b, nlook 206 T.srch = some l -> look x l = some b -> FSrOk K prog w x b
theorem args_el {β : Type} {c : Cx} {as : List Expr} {kws : List Keyword} {f : List AV -> List (Str × AV) -> St -> Rs β} {σ : St} {b : β × St × Bool} {v : β} {σ' : St} {D : Prop} (h : (bn2 (evsA r c as σ) fun vs σ => bnd (kwNames kws) fun ns => bn2 (evsA r c (kwVals kws) σ) fun ks σ => f vs (zipS ns ks) σ) = some (v, σ', true))
 (k : ∀ vs σ2 ns ks σ3, evsA r c as σ = some (vs, σ2, true) -> kwNames kws = some ns -> evsA r c (kwVals kws) σ2 = some (ks, σ3, true) -> f vs (zipS ns ks) σ3 = some (v, σ', true) -> D) : D :=
 bn2_el h fun vs σ2 h3 h => bnd_el h fun ns h4 h => bn2_el h fun ks σ3 h5 h => k vs σ2 ns ks σ3 h3 h4 h5 h
theorem callTop_ok (S : Snd K prog w n r) {c : Cx} {x : Str} {px pos : Pos} {ad : Addr} {as : List Expr} {kws : List Keyword} {f : List AV -> List (Str × AV) -> St -> Rs AV} {σ σ' : St} {v : AV} {ρ : Rho} {A : Around} {env : Env} {s : Shared} (hk : keepIn K (.ref ad) = true) (h : argsA r c as kws f σ = some (v, σ', true)) (g1 : plainArgs as = true)
 (N : ∀ (Q : Value -> Shared -> Prop) (E : Value -> Shared -> Prop), (∀ u, VR ρ (.raw (.ref ad)) u -> Q u s) -> wpAny (model prog w) A (eval (.Name x px) env) Q E s) (R : Rl K σ ρ s.heap) (e : EnvR A c ρ env) (rm : Room n A)
 (k : ∀ {vs ks us uks σ3 ρ2 s2}, f vs ks σ3 = some (v, σ', true) -> Rl K σ3 ρ2 s2.heap -> VRs ρ2 vs us -> KRs ρ2 ks uks -> FrA A ρ2 -> Cd K prog w RtR A s2 ρ2 (.call (.ref ad) ⟨us, uks⟩) v σ') : Wp K prog w VR A s ρ (eval (.Call (.Name x px) as kws pos) env) v σ' := fun Q E q =>
 args_el (b := (v, σ', true)) h fun vs σ2 ns ks σ3 h3 h4 h5 h => wpAny_Call_Name_kw (N _ _ fun u V => by
  rw [show u = .ref ad from V]
  exact callWith_ok S (P := K.In) (keeps_K hk) (fun R => R.gd.kin) h3 h4 h5 g1 R e rm fun ρ2 s2 us uks R2 X2 G2 V2 W2 => call_of_cd (s := s2) (k h R2 V2 W2 (e.fa.ex X2)) fun ρ3 s3 u R3 X3 G3 V3 => q ρ3 s3 u R3 (X2.trans X3) (G2.trans G3) V3)
theorem callRA_ok (hT : TOk K T) (L : Lo K) (S : Snd K prog w n r) (hn : 10 <= n) (hB : Big T -> 60 <= n) (H : Hyp3 K prog w T) {c : Cx} {x : Str} {px pos : Pos} {ad : Addr} {as : List Expr} {kws : List Keyword} {σ σ' : St} {v : AV} {ρ : Rho} {A : Around} {env : Env} {s : Shared} (h : callRA T r c ad as kws σ = some (v, σ', true)) (g1 : plainArgs as = true)
 (N : ∀ (Q : Value -> Shared -> Prop) (E : Value -> Shared -> Prop), (∀ u, VR ρ (.raw (.ref ad)) u -> Q u s) -> wpAny (model prog w) A (eval (.Name x px) env) Q E s) (R : Rl K σ ρ s.heap) (e : EnvR A c ρ env) (hr : Room (n + 1) A) :
 Wp K prog w VR A s ρ (eval (.Call (.Name x px) as kws pos) env) v σ' := by
 have rm := hr.le (Nat.le_succ n)
 unfold callRA at h
 cases hl : nlook ad T.fns with
 | some fs =>
  rw [hl] at h
  refine gd_el h fun hne h2 => ?_
  cases fs with
  | nil => exact ff_el hne
  | cons fn l => exact callTop_ok S (H.bd ad _ fn hl (.head _)) h2 g1 N R e rm fun h R2 V2 W2 fa => S.call h R2 V2 W2 fa rm
 | none =>
  rw [hl] at h
  dsimp only at h
  cases hc : nlook ad T.cls with
  | some f => rw [hc] at h; exact callTop_ok S (H.h2.keep ad f hc) h g1 N R e rm fun h R2 V2 W2 fa => new_ok L S H.h2 hn h R2 V2 W2 fa hr
  | none =>
   rw [hc] at h
   exact fun Q E q => gd_el h fun hb h => and_el hb fun hb hk => bn2_el h fun vs σ2 h3 h => wpAny_Call_Name_kw (N _ _ fun u V => by
    rw [show u = .ref 909 from Nat.eq_of_beq_eq_true hb ▸ V, isNil_inv hk]
    exact callWith_ok S (P := K.In) (ns := []) (ks := []) H.fu.1 (fun R => R.gd.kin) h3 rfl evs_nil g1 R e rm fun ρ2 s2 us uks R2 X2 G2 V2 W2 =>
     arg1_el h V2 W2 fun wv u v1 h => str_vr h v1 fun y ty h => bnd_el h fun l h1 h => bnd_el h fun b h2 h => H.fu.2 l y b h1 h2 R2.gd.kin (by
      cases b with
      | false => exact fun tk => ok_q (pk_f h) q ρ2 _ _ R2 X2 (G2.trans (.ht _ _ _)) rfl
      | true => exact fun h' tk m hk hm => ok_q (pk_t h) q _ _ _ (R2.push L hk hm .junk) (X2.trans (.push hk hm)) (G2.trans (.ht _ _ _)) ⟨m, by rw [len_eq, <- R2.len]; exact nth_last _ _, rfl⟩))
theorem callNA_ok (hT : TOk K T) (L : Lo K) (S : Snd K prog w n r) (hn : 10 <= n) (hB : Big T -> 60 <= n) (H : Hyp3 K prog w T) (hL : LexOk K prog w T n r) {c : Cx} {x : Str} {px pos : Pos} {as : List Expr} {kws : List Keyword} {σ σ' : St} {v : AV} {ρ : Rho} {A : Around} {env : Env} {s : Shared} (h : callNA T r c x as kws σ = some (v, σ', true)) (g1 : plainArgs as = true)
 (R : Rl K σ ρ s.heap) (e : EnvR A c ρ env) (hr : Room (n + 1) A) : Wp K prog w VR A s ρ (eval (.Call (.Name x px) as kws pos) env) v σ' :=
 bn2_el h fun a σ₁ h1 h => bnd_el h fun u hu hh => by
  have rm := hr.le (Nat.le_succ n)
  rw [rwV_inv hu] at h1
  obtain ⟨es, N⟩ := name_exact (prog := prog) (w := w) (p := px) hT h1 R e
  subst es
  cases u with
  | ref ad => exact callRA_ok hT L S hn hB H hh g1 N R e hr
  | builtin f =>
   exact fun Q E q => gd_el hh fun hk h => bn2_el h fun vs σ2 h3 h => isNil_inv hk ▸ wpAny_Call_args S (f := .builtin f) ⟨.machine, .inr (.inl rfl), fun ι => .now⟩ hT h1 h3 g1 R e rm fun ρ2 s2 us R2 X2 G2 V2 =>
    bltA_ok L H.so (hr.le (Nat.le_succ_of_le hn)) h R2 V2 _ _ fun ρ3 s3 u R3 X3 G3 V3 => q ρ3 s3 u R3 (X2.trans X3) (G2.trans G3) V3
  | type f =>
   exact fun Q E q => gd_el hh fun hk h => bn2_el h fun vs σ2 h3 h => isNil_inv hk ▸ wpAny_Call_args S (f := .type f) ⟨.machine, .inr (.inl rfl), fun ι => .now⟩ hT h1 h3 g1 R e rm fun ρ2 s2 us R2 X2 G2 V2 =>
    typA_ok H.de hL hn (e.fa.ex X2) hr h R2 V2 _ _ fun ρ3 s3 u R3 X3 G3 V3 => q ρ3 s3 u R3 (X2.trans X3) (G2.trans G3) V3
  | _ => exact none_el hh
section
variable {c : Cx} {σ σ' : St} {v : AV} {ρ : Rho} {A : Around} {env : Env} {s : Shared} {p : Pos}
theorem bin2_ok (L : Lo K) (S : Snd K prog w n r) {l q : Expr} {op : Operator} (h : bin2 r c l op q σ = some (v, σ', true)) (R : Rl K σ ρ s.heap) (e : EnvR A c ρ env) (rm : Room n A) : Wp K prog w VR A s ρ (eval (.BinOp l op q p) env) v σ' := fun Q E q =>
 bn2_el h fun a σ₁ h1 h => bn2_el h fun b σ2 h2 h => wpAny_BinOp (S.ev h1 R e rm _ _ fun ρ1 s₁ u R1 X1 G1 V1 => S.ev (s := s₁) h2 R1 (e.ex X1) rm _ _ fun ρ2 s2 u2 R2 X2 G2 V2 =>
  binA_ok (s := s2) L R2 h (V1.ex X2) V2 fun ρ' h' x tk R' X' V' => q ρ' _ _ R' ((X1.trans X2).trans X') ((G1.trans G2).trans (.ht _ _ _)) V')
theorem binX_ok (L : Lo K) (S : Snd K prog w n r) {l q : Expr} {op : Operator} (h : binX T r c l op q σ = some (v, σ', true)) (R : Rl K σ ρ s.heap) (e : EnvR A c ρ env) (rm : Room n A) : Wp K prog w VR A s ρ (eval (.BinOp l op q p) env) v σ' := by
 unfold binX at h
 cases hq : quotE l q with
 | some t => rw [hq] at h; exact pk2_el h (fun ha h => by rw [isAdd_inv ha]; exact quotV_ok hq h R e) fun ι h => bin2_ok L S h R e rm
 | none => rw [hq] at h; exact bin2_ok L S h R e rm
theorem tupA_ok (L : Lo K) {vs : List AV} {us : List Value} {Q : Value -> Shared -> Prop} {s₀ : Shared} {ρ₀ : Rho} (h : tupA vs σ = some (v, σ', true)) (R : Rl K σ ρ s.heap) (V : VRs ρ vs us) (X : Ex ρ₀ s₀.heap ρ s.heap) (G : Gs s₀ s) (q : Kt K VR s₀ ρ₀ Q v σ') : Q (.ref s.heap.objs.size) { s with heap := s.heap.push (tupOf ⟨us⟩ 0) } := by
 unfold tupA at h
 cases hd : toPs vs with
 | some ds =>
  rw [hd] at h
  obtain ⟨R2, X2⟩ := R.frzNew L (push_keep s.heap (tupOf ⟨us⟩ 0)) (get_size _) (Heap.get?_push_size _ rfl)
  exact ok_q h q _ _ _ R2 (X.trans X2) (G.trans (.hh _ _)) (FR.tuple (Fz.add_self ..) ((toPs_ok hd V).mono X2.fr))
 | none =>
  rw [hd] at h
  obtain ⟨R2, X2, e2⟩ := R.new L (tupOf ⟨us⟩ 0) (.tuple (l := vs) (Heap.get?_push_size _ rfl) (V.up ⟨⟨_, rfl⟩, .refl _⟩))
  exact ok_q h q _ _ _ R2 (X.trans X2) (G.trans (.hh _ _)) ⟨_, e2, rfl⟩
theorem subA_ok (L : Lo K) (S : Snd K prog w n r) {o k : Expr} (h : subA r c o k σ = some (v, σ', true)) (R : Rl K σ ρ s.heap) (e : EnvR A c ρ env) (rm : Room n A) : Wp K prog w VR A s ρ (eval (.Subscript o k p) env) v σ' := by
 unfold subA at h
 cases hk : sliceK k with
 | some sk => rw [hk] at h; exact bn2_el h fun a σ₁ h1 h => bnd_el h fun l h2 h => chk_el h fun fl h => ok_el h (slice_ok L S rm hk h1 h2 fl R e)
 | none =>
  rw [hk] at h
  dsimp only at h
  cases hk : sliceAB k with
  | some ab =>
   rw [hk] at h
   exact bn2_el h fun a σ₁ h1 h => bn2_el h fun x σ2 h2 h => bn2_el h fun y σ3 h3 h => bnd_el h fun t ht h => bnd_el h fun i hi h => bnd_el h fun j hj h => chk_el h fun sm h => ok_el h (sliceS_ok L S rm hk (strV_inv ht ▸ h1) (natV_inv hi ▸ h2) (natV_inv hj ▸ h3) sm R e)
  | none => rw [hk] at h; exact gd_el h fun ι h => bn2_el h fun a σ₁ h1 h => bn2_el h fun b σ2 h2 h => sub_ok S rm h1 h2 h R e
theorem genG_el {gs : List Comprehension} {g : GnE} {C : List Comprehension -> Prop} (h : bnd (oneV gs) genG = some g) (k : ∀ px, C [⟨.Name g.x px, g.it, g.ifs, 0⟩]) : C gs :=
 bnd_el h fun d h1 h => gd_el h fun h0 h => bnd_el h fun x hx h => by
  obtain rfl := Option.some.inj h
  obtain ⟨t, it, ifs, a⟩ := d
  rw [oneV_inv h1, show a = 0 from eq_of_beq ((ieq_beq _ _).trans h0)]
  exact nameOf_el (C := fun t => C [⟨t, it, ifs, 0⟩]) hx k
theorem calX_ok (hT : TOk K T) (L : Lo K) (S : Snd K prog w n r) (hn : 10 <= n) (hB : Big T -> 60 <= n) (H : Hyp3 K prog w T) (hL : LexOk K prog w T n r) {f : Expr} {as : List Expr} {kws : List Keyword} (h : calX T r c f as kws p σ = some (v, σ', true)) (R : Rl K σ ρ s.heap) (e : EnvR A c ρ env) (hr : Room (n + 1) A) : Wp K prog w VR A s ρ (eval (.Call f as kws p) env) v σ' :=
 gd_el h fun g3 h => by
  cases ha : attE f with
  | some a =>
   rw [ha] at h
   exact gd_el h fun g h => and_el g fun g1 g => and_el g fun g2 g => and_el g fun g4 g5 => bn2_el h fun a' σ₁ h1 h => bnd_el h fun m h2 h => args_el (b := (v, σ', true)) h fun vs σ2 ns ks σ3 h3 h4 h5 h =>
    attE_el (C := fun f => Wp K prog w VR A s ρ (eval (.Call f as kws p) env) v σ') ha (callAttr_ok hT L S hn hB H.h g1 g2 g3 g4 g5 h1 h2 h3 h4 h5 h R e hr)
  | none =>
   rw [ha] at h
   exact bnd_el h fun x hx h => nameOf_el (C := fun f => Wp K prog w VR A s ρ (eval (.Call f as kws p) env) v σ') hx fun px => callNA_ok hT L S hn hB H hL h g3 R e hr
end
set_option maxRecDepth 10000 in
theorem ev_ok (hT : TOk K T) (L : Lo K) (S : Snd K prog w n r) (hn : 10 <= n) (hB : Big T -> 60 <= n) (H : Hyp3 K prog w T) (hL : LexOk K prog w T n r) {c : Cx} {x : Expr} {σ σ' : St} {v : AV} {ρ : Rho} {A : Around} {env : Env} {s : Shared} (h : evA T r c x σ = some (v, σ', true)) (R : Rl K σ ρ s.heap) (e : EnvR A c ρ env) (hr : Room (n + 1) A) :
 Wp K prog w VR A s ρ (eval x env) v σ' := by
 have rm := hr.le (Nat.le_succ n)
 cases x with
 | Constant k c p =>
  cases k with
  | none => exact fun Q E q => wpAny_Constant_none (ok_q h q ρ s _ R (.refl ..) (.refl _) rfl)
  | bool b => exact fun Q E q => wpAny_Constant_bool (ok_q h q ρ s _ R (.refl ..) (.refl _) rfl)
  | int i => exact fun Q E q => wpAny_Constant_int (ok_q h q ρ _ _ R (.refl ..) (.tt _ _) ⟨_, rfl⟩)
  | str i => exact fun Q E q => wpAny_Constant_str (ok_q h q ρ _ _ R (.refl ..) (.tt _ _) ⟨_, rfl⟩)
  | _ => exact none_el h
 | Name x p => exact (name_ok (prog := prog) (w := w) hT h R e).2
 | Attribute o y p =>
  exact fun Q E q => gd_el h fun hs h => bn2_el h fun a σ₁ h1 h => by
   rw [arm_eval_Attribute, notSuper_ok hs]
   refine wpAny_bind (S.ev h1 R e rm _ _ fun ρ1 s₁ u R1 X1 G1 V1 => wpAny_bind (wpAny_standAt (wpAny_bind (wpAny_holding ?_))))
   exact getA_ok (s := s₁) hT L S h R1 V1 (e.fa.ex X1) hr _ _ fun ρ2 s2 u2 R2 X2 G2 V2 => wpAny_bind (wpAny_letTemporaryGo (wpAny_pure (q ρ2 s2 u2 R2 (X1.trans X2) (G1.trans G2) V2)))
 | Compare l ops qs p =>
  exact fun Q E q => bnd_el h fun op h1 h => bnd_el h fun y h2 h => bn2_el h fun t σ3 h3 h => by
   have q := ok_q h q
   rw [oneV_inv h1, oneV_inv h2]
   obtain ⟨k1, k2⟩ := cmpE_ok S hn (Q := Q) (E := E) h3 R e rm fun ρ2 s2 R2 X2 G2 => q ρ2 s2 _ R2 X2 G2 rfl
   exact wpAny_Compare1 k2 k1
 | BinOp l op q p => exact binX_ok L S h R e rm
 | IfExp t a b p =>
  exact fun Q E q => bn2_el h fun b σ₁ h1 h => wpAny_IfExp (S.tr h1 R e rm _ _ fun ρ1 s₁ u R1 X1 G1 V1 => by
   rw [V1]
   cases b
   · exact S.ev (s := s₁) (pk_f h) R1 (e.ex X1) rm _ _ fun ρ2 s2 u2 R2 X2 G2 V2 => q ρ2 s2 u2 R2 (X1.trans X2) (G1.trans G2) V2
   · exact S.ev (s := s₁) (pk_t h) R1 (e.ex X1) rm _ _ fun ρ2 s2 u2 R2 X2 G2 V2 => q ρ2 s2 u2 R2 (X1.trans X2) (G1.trans G2) V2)
 | Tuple es c p =>
  exact fun Q E q => gd_el h fun g1 h => bn2_el h fun vs σ₁ h1 h => chk_el h fun fl h => wpAny_Tuple (evs_ok S rm h1 g1 R e _ _ fun ρ1 s₁ us R1 X1 G1 V1 => ⟨by have fl := fit_ok fl; rw [V1.length, sizeLine_eq]; exact le_c ‹_› rfl, tupA_ok L h R1 V1 X1 G1 q⟩)
 | List es p =>
  exact fun Q E q => gd_el h fun g1 h => bn2_el h fun vs σ₁ h1 h => bnd_el h fun p h2 h => chk_el h fun fl h => wpAny_List (evs_ok S rm h1 g1 R e _ _ fun ρ1 s₁ us R1 X1 G1 V1 => by
   obtain ⟨ρ2, R2, X2, W⟩ := frzs_ok R1 h2 V1
   refine ⟨by have fl := fit_ok fl; rw [W.length, sizeLine_eq]; exact le_c ‹_› rfl, ?_⟩
   obtain ⟨R3, X3, e3⟩ := R2.new L (listOf ⟨us⟩ 0) (.list (l := p.1) (Heap.get?_push_size _ rfl) W)
   exact ok_q h q _ _ _ R3 ((X1.trans X2).trans X3) (G1.trans (.hh _ _)) ⟨_, e3, rfl⟩)
 | UnaryOp op x p =>
  exact fun Q E q => gd_el h fun ho h => bn2_el h fun a σ₁ h1 h => by
   rw [isUSub_inv ho]
   exact wpAny_UnaryOp (S.ev h1 R e rm _ _ fun ρ1 s₁ u R1 X1 G1 V1 => int_vr h V1 fun i t h => P.neg_int (ok_q h q ρ1 _ _ R1 X1 (G1.trans (.tt _ _)) ⟨_, rfl⟩))
 | Subscript o k p => exact subA_ok L S h R e rm
 | ListComp elt gs sc p =>
  exact bnd_el h fun g hg h => gd_el h fun g1 h => and_el g1 fun g1 g2 => genG_el (C := fun gs => Wp K prog w VR A s ρ (eval (.ListComp elt gs sc p) env) v σ') hg fun px => comp_ok L S rm g1 (noFold (x := .Name s_debug ⟨0, 0, 0, 0⟩) g2) h R e
 | Call f as kws p => exact calX_ok hT L S hn hB H hL h R e hr
 | _ => exact none_el h
theorem for_any (L : Lo K) (S : Snd K prog w n r) {c : Cx} {t it : Expr} {b : List Stmt} {xs : List Str} {pos : Pos} {env : Env} {A : Around} (hr : Room n A) {a : AV} {p : List PyData × Option Nat} {σ σ₁ σ' : St} {z : Unit} {ρ : Rho} {s : Shared}
 (h1 : r.ev c it σ = some (a, σ₁, true)) (hi : iterA a σ₁ = some p) (hf : forA r c t b xs (len σ₁) p.1 (blur c xs (lockA p.2 σ₁)) = some (z, σ', true)) (R : Rl K σ ρ s.heap) (e : EnvR A c ρ env) (hs : ∀ x, foldedSetIterable it env x = pure x) :
 Wp K prog w FlR A s ρ (exec (.For t it b [] pos) env) .next (unlockA p.2 p.1 σ') := by
 intro Q E q
 refine wpAny_For (S.ev h1 R e hr _ _ fun ρ1 s₁ u R1 X1 G1 V1 => ?_) hs
 obtain ⟨X, RL, SR, un⟩ := iter_ok (prog := prog) (w := w) hr.2.2 hi R1 V1
 rw [<- lock_len (lk := p.2) (σ := σ₁)] at hf
 refine turns_ok (s := s₁) L S hr SR hf RL ((e.ex X1).ofL rfl rfl) fun ρ' s' R' X' G' ql => ?_
 obtain ⟨l', F', X2, fs2⟩ := ρ'
 have fe : fs2 = ρ1.fs := X'.es
 have ql : l' = ρ1.l := ql
 have xe : X2 = X := X'.xs
 subst fe; subst ql; subst xe
 exact q ⟨ρ1.l, F', ρ1.X, ρ1.fs⟩ s' .next (un _ F' ρ1.l s'.heap (fun ι => True) ⟨[], by simp⟩ X'.fr _ R' rfl).1 (X1.trans ⟨⟨[], by simp, nofun⟩, X'.fr, rfl, rfl, X'.keep, X'.tab⟩) (G1.trans G') .next
set_option tactic.hygienic true in
theorem rangeSize_up {a b st : Nat} : Builtin.Range.rangeSize (a : Int) (b : Int) ((st + 1 : Nat) : Int) = ((Nat.div (Nat.sub (Nat.add b st) a) (st + 1) : Nat) : Int) := by
 unfold Builtin.Range.rangeSize
 rw [if_pos (by lia)]
 show _ = (((b + st - a) / (st + 1) : Nat) : Int)
 split
 · rename_i h
   have h : a < b := by lia
   have e1 : ((b : Int) - a - 1) = ((b - a - 1 : Nat) : Int) := by lia
   rw [e1, <- Int.natCast_ediv]
   have e2 : b + st - a = (b - a - 1) + (st + 1) := by lia
   rw [e2, Nat.add_div_right _ (Nat.succ_pos st)]
   push_cast
   lia
 · rename_i h
   have h : b <= a := by lia
   rw [Nat.div_eq_of_lt (by lia)]
   rfl
theorem nats_inv {vs : List AV} : ∀ {ns : List Nat}, nats vs = some ns -> vs = ns.map fun n => .int (.ofNat n) := by
 induction vs with
 | nil => exact fun h => some_el h rfl
 | cons v l ih => exact fun h => bnd_el h fun n h1 h => bnd_el h fun r h2 h => some_el h (by rw [natV_inv h1, ih h2]; rfl)
theorem rangeV_el {ρ : Rho} {vs : List AV} {us : List Value} {l : List PyData × Bool} {C : List Value -> List PyData × Bool -> Prop} (h : rangeV vs = some l) (V : VRs ρ vs us) (k1 : ∀ m t, C [.int (.ofNat m) t] (rangeL 0 1 m, Nat.ble m 10000))
 (k3 : ∀ x y st t1 t2 t3, C [.int (.ofNat x) t1, .int (.ofNat y) t2, .int (.ofNat (st + 1)) t3] (rangeL (.ofNat x) (.ofNat (st + 1)) (Nat.div (Nat.sub (Nat.add y st) x) (st + 1)), Nat.ble x 10000 && (Nat.ble y 10000 && Nat.ble st 10000))) : C us l :=
 bnd_el h fun ns hn h2 => by
  have e := nats_inv hn
  subst e
  cases ns with
  | nil => exact none_el h2
  | cons a ns =>
   refine pk2_el h2 (fun e h => ?_) fun ι h => bnd_el h fun p hp h => ?_
   · rw [isNil_inv e] at V
     exact V.one (C := fun us => C us l) fun u v => v.it fun t => some_el (q := C _) h (k1 a t)
   · rw [twoV_inv hp] at V
     refine V.cons_el (C := fun us => C us l) fun u r v V => V.two' fun u' u'' v' v'' => v.it fun t1 => v'.it fun t2 => v''.it fun t3 => ?_
     obtain ⟨x, st⟩ := p
     cases st with
     | zero => exact none_el h
     | succ st => exact some_el (q := C _) h (k3 a x st t1 t2 t3)
noncomputable def RgGo (prog : Program) (w : World) (A : Around) (t : Expr) (b : List Stmt) (env : Env) (Q : Flow -> Shared -> Prop) (E : Value -> Shared -> Prop) (s2 : Shared) (l : List PyData × Bool) : Prop :=
 ∀ (s3 : Shared) (R0 : Addr) (x y d : Int) (tx ty td : Tok), (∀ b o, s2.heap.get? b = some o -> s3.heap.get? b = some o) -> Gs s2 s3 -> IsRange s3.heap R0 x y d tx ty td -> Builtin.Range.small x y d = true -> l.1 = rangeL x d (Builtin.Range.rangeSize x y d).toNat -> 0 <= Builtin.Range.rangeSize x y d ->
  wpAny (model prog w) A (pyIter (.ref R0)) (fun it s2 => codeAny (model prog w) A (.forLoop t it b [] env) (fun r s' => match r with | .ok f => Q f s' | .error e => cameBackBy (model prog w) A env E e s') s2) E s3
theorem for_range (hT : TOk K T) (L : Lo K) (S : Snd K prog w n r) {c : Cx} {t it : Expr} {as : List Expr} {b : List Stmt} {xs : List Str} {pos : Pos} {env : Env} {A : Around} (hr : Room n A) {f : String} {vs : List AV} {l : List PyData × Bool} {σ σ₁ σ2 σ' : St} {z : Unit} {ρ : Rho} {s : Shared}
 (hi : isRange it = some as) (hp : plainArgs as = true) (h1 : nameA T c s_range σ = some (.raw (.type f), σ₁, true)) (hfn : leq (strN f) (strN "range") = true) (h2 : evsA r c as σ₁ = some (vs, σ2, true)) (h3 : rangeV vs = some l) (hb : l.2 = true)
 (hf : forA r c t b xs (len σ2) l.1 (blur c xs σ2) = some (z, σ', true)) (R : Rl K σ ρ s.heap) (e : EnvR A c ρ env) (hs : ∀ x, foldedSetIterable it env x = pure x) :
 Wp K prog w FlR A s ρ (exec (.For t it b [] pos) env) .next σ' := by
 rw [strN_ok hfn] at h1
 intro Q E q
 refine wpAny_For ?_ hs
 refine bnd_el hi fun d hd hi => gd_el hi fun hk hi => bnd_el hi fun fx hf2 hi => gd_el hi fun hx hi => callE_el (C := fun it => wpAny (model prog w) A (eval it env) _ E s) hd ?_
 rw [isNil_inv hk, Option.some.inj hi]
 refine nameOf_el (C := fun f => wpAny (model prog w) A (eval (.Call f as [] d.p) env) _ E s) hf2 fun px => ?_
 rw [seq_iff.mp hx]
 refine wpAny_Call_args S (f := .type "range") ⟨.machine, .inr (.inl rfl), fun ι => .now⟩ hT h1 h2 hp R e hr fun ρ2 s2 us R2 X2 G2 V2 => ?_
 have go : RgGo prog w A t b env Q E s2 l := fun s3 R0 x y d tx ty td kp G3 ir sm le h0 =>
  turns_ok (s := s3) L S hr (src_range hr.2.2 ir sm le h0) hf (R2.grow L kp) (e.ex X2) fun ρ' s' R' X' G' ql => q ρ' s' .next R' (X2.trans ((Ex.grow kp).trans X')) ((G2.trans G3).trans G') .next
 clear hf q
 refine rangeV_el (C := fun us l => l.2 = true -> RgGo prog w A t b env Q E s2 l -> wpAny (model prog w) A (call (.type "range") us) _ E s2) h3 V2 (fun m t hb go => ?_) (fun x y st t1 t2 t3 hb go => ?_) hb go
 · have hb := Nat.le_of_ble_eq_true hb
   have sr := small_range (a := 0) (b := (m : Int)) (c := 1) (Int.le_refl 0) (by decide) (Int.natCast_nonneg m) (Int.ofNat_le.mpr hb) (by decide) (by decide)
   refine call_range_1 (go _ _ 0 (m : Int) 1 _ _ _ (push_keep _ _) (.ht _ _ _) (IsRange.new ..) sr.1 ?_ sr.2.1)
   rw [show (Builtin.Range.rangeSize 0 (m : Int) 1).toNat = m by rw [rangeSize_one]; split <;> lia]
 · refine and_el hb fun b1 hb => and_el hb fun b2 b3 => ?_
   have b1 := Nat.le_of_ble_eq_true b1
   have b2 := Nat.le_of_ble_eq_true b2
   have b3 := Nat.le_of_ble_eq_true b3
   have sr := small_range (a := (x : Int)) (b := (y : Int)) (c := ((st + 1 : Nat) : Int)) (Int.natCast_nonneg x) (Int.ofNat_le.mpr b1) (Int.natCast_nonneg y) (Int.ofNat_le.mpr b2) (Int.ofNat_lt.mpr (Nat.succ_pos st)) (Int.ofNat_le.mpr (Nat.succ_le_succ b3))
   refine call_range_3 (a := (x : Int)) (b := (y : Int)) (c := ((st + 1 : Nat) : Int)) (Int.ne_of_gt (Int.ofNat_lt.mpr (Nat.succ_pos st))) (go _ _ (x : Int) (y : Int) ((st + 1 : Nat) : Int) _ _ _ (push_keep _ _) (.ht _ _ _) (IsRange.new ..) sr.1 ?_ sr.2.1) (.inl (PyProof.noPylong_small (by lia)))
   rw [rangeSize_up]
   rfl
theorem dict_empty {h : Heap} {a : Addr} {m : Nat} (g : h.get? a = some (dictOf [] m)) : h.DictAt (strKind prog w) a [] m :=
 ⟨_, #[], g, ⟨rfl, rfl, rfl⟩, rfl, fun e he => by simp at he, .nil, List.nodup_nil⟩
theorem for_items (L : Lo K) (S : Snd K prog w n r) {c : Cx} {t it o : Expr} {ap p : Pos} {b : List Stmt} {pos : Pos} {env : Env} {A : Around} (hr : Room n A) {i : Nat} {σ σ₁ : St} {ρ : Rho} {s : Shared}
 (hi : isItems it = some (o, ap, p)) (g1 : notSuper o = true) (g2 : Nat.beq ap.endLine p.line = true) (h1 : r.ev c o σ = some (.ref i, σ₁, true)) (hd : nth σ₁ i = some (.dict [])) (R : Rl K σ ρ s.heap) (e : EnvR A c ρ env) (hs : ∀ x, foldedSetIterable it env x = pure x) :
 Wp K prog w FlR A s ρ (exec (.For t it b [] pos) env) .next σ₁ := by
 intro Q E q
 refine wpAny_For ?_ hs
 refine bnd_el hi fun d hc hi => gd_el hi fun hk hi => and_el hk fun hk1 hk2 => bnd_el hi fun f hf hi => gd_el hi fun hx hi => callE_el (C := fun it => wpAny (model prog w) A (eval it env) _ E s) hc ?_
 rw [isNil_inv hk1, isNil_inv hk2]
 refine attE_el (C := fun f => wpAny (model prog w) A (eval (.Call f [] [] d.p) env) _ E s) hf ?_
 rw [show f.o = o from congrArg Prod.fst (Option.some.inj hi), show f.p = ap from congrArg (fun z : Expr × Pos × Pos => z.2.1) (Option.some.inj hi), show d.p = p from congrArg (fun z : Expr × Pos × Pos => z.2.2) (Option.some.inj hi), show f.x = s_items from seq_iff.mp hx]
 have line : (ap.endLine == p.line) = true := by rw [Nat.eq_of_beq_eq_true g2]; simp
 refine methodCall_KW (pl := do return (<- importBound o env).getD true) ?_ (by
  rw [arm_eval_Call, notSuper_ok g1]
  unfold methodCall calleeOf methodCallPos
  have form : methodCallForm (([] : List Expr).length + ([] : List Keyword).length) (backTo p (starEach [] env)) (backToKw p (keywordEach [] env)) = true := by rfl
  simp only [form, line, if_true, Bool.not_true, Bool.false_or, pure_bind])
 refine S.ev h1 R e hr _ _ fun ρ1 s₁ u R1 X1 G1 V1 => ?_
 obtain ⟨a, ha, rfl⟩ := V1
 obtain ⟨es, m, g, D, sy⟩ := (R1.ob i a _ ha hd).out
 have D := show es = [] from D.out
 subst D
 have na : (a == sysModules) = false := beq_eq_false_iff_ne.mpr sy
 have DA := dict_empty (prog := prog) (w := w) g
 refine getMethod_builtin ⟨_, g, rfl⟩ F.plainAttrs_dict F.slot_dict_items F.type_dict_items (fun b e => Value.ref.inj e ▸ ⟨_, g, rfl⟩) ?_
 show wpAny _ _ (callWith p (.builtin "dict.items") [.ref a] [] []) _ _ _
 refine method_meetsIn F.slot_dict_items F.entry_dict_items rfl (PySem.evalArgs_none ⟨rfl, ⟨_, g, rfl⟩, F.args_dict_items_1 _, _, meets_dict_items (strKind prog w) a na, ⟨[], DA.dictOf⟩, ?_⟩)
 refine wpAny_pyIter_items (knd := strKind prog w) (d := a) (kvs := []) (ep := m) ⟨_, Heap.get?_push_size _ rfl, rfl, rfl⟩ (DA.push _) ?_
 refine codeAny_of_tree ?_
 show wpAny _ A ((forTurn t (.ref _) b [] env).onRaise (fun x => do noteFrame x env; theTreesLotGoes x)) _ _ _
 refine wpAny_onRaise ?_
 refine wpAny_bind (wpAny_standAt (wpAny_bind (wpAny_onRaise (wpAny_pyNext_items_end (knd := strKind prog w) (d := a) (kvs := []) (ep := m) hr.2.2 (Heap.get?_push_size _ rfl) ((DA.push _).push _) rfl fun h' eb => ?_))))
 have kp : ∀ b o, s₁.heap.get? b = some o -> h'.get? b = some o := fun b o eb' => eb b o (fun z => by
  have := Heap.lt_size eb'
  rw [z, push_size] at this
  exact absurd this (Nat.not_lt.mpr (Nat.le_succ _))) (push_keep _ _ _ _ (push_keep _ _ _ _ eb'))
 exact wpAny_pure (And.intro rfl (codeAny_block (wpAny_execs_nil (q ρ1 _ .next (R1.grow L kp) (X1.trans (.grow kp)) (G1.trans (.hh _ _)) .next))))
theorem forSt_ok (hT : TOk K T) (L : Lo K) (S : Snd K prog w n r) {c : Cx} {t it : Expr} {b : List Stmt} {pos : Pos} {env : Env} {A : Around} (hr : Room n A) {σ σ' : St} {v : Fl} {ρ : Rho} {s : Shared} (hs : notSet it = true)
 (h : forSt T r c t it b σ = some (v, σ', true)) (R : Rl K σ ρ s.heap) (e : EnvR A c ρ env) : Wp K prog w FlR A s ρ (exec (.For t it b [] pos) env) v σ' := by
 have hs' := noFold (x := .Name s_debug ⟨0, 0, 0, 0⟩) (env := env) hs
 unfold forSt at h
 cases hi : isRange it with
 | some as =>
  rw [hi] at h
  exact gd_el h fun hp h => bn2_el h fun a σ₁ h1 h => bnd_el h fun f hf h => gd_el h fun hfn h => bn2_el h fun vs σ2 h2 h => bnd_el h fun l h3 h => chk_el h fun hb h => bn2_el h fun z σ3 h4 h => ok_el h (for_range hT L S hr hi hp (typV_inv hf ▸ h1) hfn h2 h3 hb h4 R e hs')
 | none =>
  rw [hi] at h
  dsimp only at h
  cases hi : isItems it with
  | some q =>
   rw [hi] at h
   exact gd_el h fun g h => and_el g fun g1 g2 => bn2_el h fun a σ₁ h1 h => bnd_el h fun i hv h => bnd_el h fun l hd h => gd_el h fun hl h => ok_el h (for_items L S hr hi g1 g2 (refV_inv hv ▸ h1) (isNil_inv hl ▸ dictOfA_eq hd) R e hs')
  | none =>
   rw [hi] at h
   exact bn2_el h fun a σ₁ h1 h => bnd_el h fun p h2 h => chk_el h fun fl h => bn2_el h fun z σ3 h4 h => ok_el h (for_any L S hr h1 h2 h4 R e hs')
theorem inpA_ok {σ σ' : St} {ρ : Rho} {op : Operator} {a b x : AV} {u v : Value} {A : Around} {E : Value -> Shared -> Prop} {s : Shared} {Q : Value -> Shared -> Prop} (h : inpA op a b σ = some (x, σ', true)) (ha : VR ρ a u) (hb : VR ρ b v)
 (q : σ' = σ -> ∀ y tk, VR ρ x y -> Q y { s with toks := tk }) : wpAny (model prog w) A (inplaceOp op u v) Q E s :=
 gd_el h fun hop h2 => by
  rw [isAdd_inv hop]
  cases a with
  | int x => exact ha.it fun t1 => int_vr h2 hb fun y t2 h => P.iadd_int (ok_t (P := fun x => ∀ y tk, VR ρ x y -> Q y { s with toks := tk }) h q _ _ ⟨_, rfl⟩)
  | str x => exact ha.st fun t1 => str_vr h2 hb fun y t2 h => chk_el h fun p h => P.iadd_str (add_made p fun t tk => ok_t (P := fun x => ∀ y tk, VR ρ x y -> Q y { s with toks := tk }) h q _ _ ⟨t, rfl⟩)
  | _ => exact none_el h2
theorem exprSt_ok {ρ1 : Rho} {a : AV} {u : Value} (hv : notRef a = true) (V : VR ρ1 a u) : ∀ b, u ≠ .ref b := by
 cases a with
 | none => exact V.nn nofun
 | bool b => exact (show u = .bool b from V) ▸ nofun
 | int => exact V.it nofun
 | str => exact V.st nofun
 | raw y =>
  refine V.rw fun b hb => ?_
  rw [hb] at hv
  exact ff_el hv
 | _ => exact ff_el hv
@[elab_as_elim] theorem sliceK_all {k : Expr} {C : Expr -> Prop} (h : sliceK k = some .all) (q : ∀ p, C (.Slice none none none p)) : C k :=
 bnd_el h fun d h1 h => gd_el h fun h0 h => slcE_el h1 fun p => by
  obtain ⟨a, b, c⟩ := d
  cases b with
  | some e => exact gd_el h fun ι h => bnd_el h fun ι ι h => nomatch Option.some.inj h
  | none => cases c with
   | some e => exact gd_el h fun ι h => nomatch Option.some.inj h
   | none => rw [isNone_inv h0]; exact q p
theorem assignSub_ok (hT : TOk K T) (L : Lo K) (S : Snd K prog w n r) {c : Cx} {o k x : Expr} {sp pos : Pos} {σ σ' : St} {v : Fl} {ρ : Rho} {A : Around} {env : Env} {s : Shared} (rm : Room n A)
 (h : subSt T r c o k x σ = some (v, σ', true)) (R : Rl K σ ρ s.heap) (e : EnvR A c ρ env) : Wp K prog w FlR A s ρ (exec (.Assign [.Subscript o k sp] x pos) env) v σ' := fun Q E q =>
 bn2_el h fun a σ₁ h1 h => bn2_el h fun b σ2 h2 h => wpAny_Assign_Subscript (S.ev h1 R e rm _ _ fun ρ1 s₁ u R1 X1 G1 V1 => S.ev (s := s₁) h2 R1 (e.ex X1) rm _ _ fun ρ2 s2 u2 R2 X2 G2 V2 => by
  cases hk : sliceK k with
  | none =>
   rw [hk] at h
   exact gd_el h fun ι h => bn2_el h fun b3 σ3 h3 h => bn2_el h fun z σ4 h4 h => S.ev (s := s2) h3 R2 (e.ex (X1.trans X2)) rm _ _ fun ρ3 s3 u3 R3 X3 G3 V3 =>
    setSub_ok (s := s3) hT L S (e.fa.ex ((X1.trans X2).trans X3)) rm h4 R3 (V2.ex X3) V3 (V1.ex (X2.trans X3)) fun ρ4 s4 R4 X4 G4 => ok_q h q ρ4 s4 _ R4 (((X1.trans X2).trans X3).trans X4) (((G1.trans G2).trans G3).trans G4) .next
  | some sk =>
   rw [hk] at h
   cases sk with
   | all =>
    refine bn2_el h fun z σ3 h3 h => sliceK_all hk fun p => wpAny_Slice ?_
    rw [evalPart_none]
    have R2' := R2.grow L (push_keep s2.heap { cls := .type "slice", data := .fields #[.none, .none, .none] })
    exact wpAny_pure (wpAny_pure (wpAny_pure (setAll_ok (s := { s2 with heap := s2.heap.push { cls := .type "slice", data := .fields #[.none, .none, .none] } }) L h3 R2' V2 (V1.ex X2) (Heap.IsSliceOf.new ..) fun h' R3 X3 =>
     ok_q h q ρ2 _ _ R3 ((X1.trans X2).trans ((Ex.grow (push_keep _ _)).trans X3)) ((G1.trans G2).trans (.hh _ _)) .next)))
   | _ => exact none_el h) (by cases x <;> rfl)
theorem assignComp_ok (L : Lo K) (S : Snd K prog w n r) {c : Cx} {x y : Str} {px py cp pos : Pos} {elt iter : Expr} {ifs : List Expr} {sc : Scope} {σ σ₁ σ' : St} {a : AV} {ρ : Rho} {A : Around} {env : Env} {s : Shared} (rm : Room n A) (g1 : Nat.ble (len ifs) 1 = true) (g2 : notSet iter = true)
 (h1 : compA r c y iter ifs elt sc σ = some (a, σ₁, true)) (h2 : storeL c x a σ₁ = some σ') (R : Rl K σ ρ s.heap) (e : EnvR A c ρ env) : Wp K prog w FlR A s ρ (exec (.Assign [.Name x px] (.ListComp elt [⟨.Name y py, iter, ifs, 0⟩] sc cp) pos) env) .next σ' := by
 have hs := noFold (x := .Name s_debug ⟨0, 0, 0, 0⟩) (env := env) g2
 obtain ⟨b, hb⟩ : ∃ b, swapsWith (.ListComp elt [⟨.Name y py, iter, ifs, 0⟩] sc cp) (some (.Name x px)) pos.line env = pure b := ⟨_, rfl⟩
 intro Q E q
 cases b with
 | false =>
  refine wpAny_Assign_Name ?_ hb
  refine comp_ok L S rm g1 hs h1 R e _ _ fun ρ1 s₁ u R1 X1 G1 V1 => ?_
  exact storeL_ok (s := s₁) L h2 R1 (e.ex X1) V1 fun h₂ t2 R2 X2 => q ρ1 _ _ R2 (X1.trans X2) (G1.trans (.ht _ _ _)) .next
 | true =>
  rw [exec_Assign_Name_used _ _ _ _ hb]
  refine wpAny_bind (wpAny_standAt (wpAny_bind ?_))
  exact comp_use L S (spos := pos) rm g1 hs h1 h2 R e _ _ fun ρ1 s₁ u R1 X1 G1 ι => wpAny_pure (q ρ1 s₁ _ R1 X1 G1 .next)
theorem assignTup_ok (L : Lo K) (S : Snd K prog w n r) {c : Cx} {ts : List Expr} {k : Nat} {p pos : Pos} {x : Expr} {σ σ₁ σ' : St} {a : AV} {ρ : Rho} {A : Around} {env : Env} {s : Shared} (rm : Room n A) (ht : isTupE x = false) (hc : isCompr x = false)
 (h1 : r.ev c x σ = some (a, σ₁, true)) (h2 : storeT c (.Tuple ts k p) a σ₁ = some σ') (R : Rl K σ ρ s.heap) (e : EnvR A c ρ env) : Wp K prog w FlR A s ρ (exec (.Assign [.Tuple ts k p] x pos) env) .next σ' := by
 intro Q E q
 refine wpAny_Assign_stores (S.ev h1 R e rm _ _ fun ρ1 s₁ u R1 X1 G1 V1 => ?_) (by unfold swapsWithSole; exact swaps_no hc _ _ _) (by cases x <;> first | rfl | exact ff_el ht.symm)
 show wpAny _ _ (assign (.Tuple ts k p) env u) _ _ _
 exact storeT_ok (s := s₁) L rm.2.2 h2 R1 (e.ex X1) V1 fun h₂ t2 R2 X2 => q ρ1 _ _ R2 (X1.trans X2) (G1.trans (.ht _ _ _)) .next
section
variable {c : Cx} {σ σ' : St} {v : Fl} {ρ : Rho} {A : Around} {env : Env} {s : Shared} {pos : Pos}
theorem asN_ok (L : Lo K) (S : Snd K prog w n r) {x : Str} {px : Pos} {e' : Expr} (rm : Room n A) (h : asN r c x e' σ = some (v, σ', true)) (R : Rl K σ ρ s.heap) (e : EnvR A c ρ env) : Wp K prog w FlR A s ρ (exec (.Assign [.Name x px] e' pos) env) v σ' := by
 unfold asN at h
 cases hq : lcE e' with
 | none =>
  rw [hq] at h
  exact fun Q E q => gd_el h fun hc h => bn2_el h fun a σ₁ h1 h => bnd_el h fun σ2 h2 h => wpAny_Assign_Name (S.ev h1 R e rm _ _ fun ρ1 s₁ u R1 X1 G1 V1 =>
   storeL_ok (s := s₁) L h2 R1 (e.ex X1) V1 fun h₂ t2 R2 X2 => ok_q h q ρ1 _ _ R2 (X1.trans X2) (G1.trans (.ht _ _ _)) .next) (swaps_no (not_el hc) _ _ _)
 | some d =>
  rw [hq] at h
  refine gd_el h fun g h => and_el g fun g1 g2 => bn2_el h fun a σ₁ h1 h => bnd_el h fun σ2 h2 h => ok_el h ?_
  cases e' with
  | ListComp elt gs sc p =>
   refine bnd_el hq fun g hg hq => ?_
   obtain rfl := Option.some.inj hq
   exact genG_el (C := fun gs => Wp K prog w FlR A s ρ (exec (.Assign [.Name x px] (.ListComp elt gs sc p) pos) env) .next σ2) hg fun py => assignComp_ok L S rm g1 g2 h1 h2 R e
  | _ => exact none_el hq
theorem asgA_ok (hT : TOk K T) (L : Lo K) (S : Snd K prog w n r) {t e' : Expr} (rm : Room n A) (h : asgA T r c e' σ t = some (v, σ', true)) (R : Rl K σ ρ s.heap) (e : EnvR A c ρ env) : Wp K prog w FlR A s ρ (exec (.Assign [t] e' pos) env) v σ' := by
 cases t with
 | Attribute o x p =>
  exact fun Q E q => gd_el h fun hc h => bn2_el h fun a σ₁ h1 h => bn2_el h fun b σ2 h2 h => bn2_el h fun z σ3 h3 h => by
   refine wpAny_Assign_stores (S.ev h1 R e rm _ _ fun ρ1 s₁ u R1 X1 G1 V1 => ?_) (by unfold swapsWithSole; exact swaps_no (not_el hc) _ _ _) rfl
   show wpAny _ _ (assign (.Attribute _ _ _) env u) _ _ _
   rw [arm_assign_Attribute]
   refine wpAny_bind (wpAny_holding (S.ev (s := s₁) h2 R1 (e.ex X1) rm _ _ fun ρ2 s2 u2 R2 X2 G2 V2 => wpAny_bind (wpAny_standAt (wpAny_bind (wpAny_holding ?_)))))
   exact setA_ok (s := s2) hT L h3 R2 V2 (V1.ex X2) fun h₃ t3 R3 X3 => wpAny_release (ok_q h q ρ2 _ _ R3 ((X1.trans X2).trans X3) ((G1.trans G2).trans (.ht _ _ _)) .next)
 | Subscript o k p => exact assignSub_ok hT L S rm h R e
 | Name x p => exact asN_ok L S rm h R e
 | Tuple ts k p => exact gd_el h fun ht h => gd_el h fun hc h => bn2_el h fun a σ₁ h1 h => bnd_el h fun σ2 h2 h => ok_el h (assignTup_ok L S rm (not_el ht) (not_el hc) h1 h2 R e)
 | _ => exact none_el h
theorem mc1_el {b : List Stmt} {m : McE × Str} {C : List Stmt -> Prop} (h : bnd (oneV b) mc1 = some m) (k : ∀ po py ps, C [.Expr (.Call (.Attribute (.Name m.1.o po) m.1.x m.1.ap) [.Name m.2 py] [] m.1.p) ps]) : C b :=
 bnd_el h fun t h1 h => bnd_el h fun m' h2 h => bnd_el h2 fun e h2 h3 => bnd_el h fun w h4 h => bnd_el h fun y h5 h => by
  obtain rfl := Option.some.inj h
  rw [oneV_inv h1]
  cases t with
  | Expr e' ps =>
   obtain rfl := Option.some.inj h2
   refine mcE_el (C := fun e => C [.Expr e ps]) h3 fun po => ?_
   rw [oneV_inv h4]
   exact nameOf_el (C := fun w => C [.Expr (.Call (.Attribute (.Name m'.o po) m'.x m'.ap) [w] [] m'.p) ps]) h5 fun py => k po py ps
  | _ => exact none_el h2
theorem hd_el {hs : List ExceptHandler} {q : HdE} {C : List ExceptHandler -> Prop} (h : bnd (oneV hs) hdE = some q) (k : ∀ pe po py ps hp, C [.ExceptHandler (some (.Name q.ex pe)) none [.Expr (.Call (.Attribute (.Name q.m.o po) q.m.x q.m.ap) [.Name q.y py] [] q.m.p) ps] hp]) : C hs :=
 bnd_el h fun t h1 h => by
  rw [oneV_inv h1]
  obtain ⟨t, nm, b, hp⟩ := t
  exact gd_el h fun h2 h => bnd_el h fun ex h3 h => bnd_el h3 fun t' h3 h4 => bnd_el h fun m h5 h => by
   obtain rfl := Option.some.inj h
   rw [isNone_inv h2, h3]
   exact nameOf_el (C := fun t => C [.ExceptHandler (some t) none b hp]) h4 fun pe => mc1_el (C := fun b => C [.ExceptHandler (some (.Name ex pe)) none b hp]) h5 fun po py ps => k pe po py ps hp
theorem tryX_ok (hT : TOk K T) (L : Lo K) (H : Hyp K prog w T) {b : List Stmt} {hs : List ExceptHandler} (hr : Room 10 A) (h : tryX T c b hs σ = some (v, σ', true)) (R : Rl K σ ρ s.heap) (e : EnvR A c ρ env) : Wp K prog w FlR A s ρ (exec (.Try b hs [] [] pos) env) v σ' :=
 bnd_el h fun m hm h => bnd_el h fun q hq h => gd_el h fun g h => and_el g fun e1 g => and_el g fun e2 g => and_el g fun e3 g => and_el g fun g1 g => and_el g fun g2 cl => bn2_el h fun q0 σ₁ h0 h => bnd_el h fun f hf h => gd_el h fun hfn h =>
  bn2_el h fun v1 σ2 h1 h => bn2_el h fun v2 σ3 h2 h => bn2_el h fun v3 σ4 h3 h => bnd_el h fun i hi h => bnd_el h fun j hj h => bnd_el h fun d hd h => bnd_el h fun l hl h => bnd_el h fun l2 hl2 h => chk_el h fun fl h => chk_el h fun s1 h => chk_el h fun s2 h =>
   mc1_el (C := fun b => Wp K prog w FlR A s ρ (exec (.Try b hs [] [] pos) env) v σ') hm fun po py ps => hd_el (C := fun hs => Wp K prog w FlR A s ρ (exec (.Try [.Expr (.Call (.Attribute (.Name m.1.o po) m.1.x m.1.ap) [.Name m.2 py] [] m.1.p) ps] hs [] [] pos) env) v σ') hq fun pe po2 py2 ps2 hp =>
    try_ok hT L H hr e1 e2 e3 g1 g2 hfn (typV_inv hf ▸ h0) (refV_inv hi ▸ h1) (refV_inv hj ▸ h2) (tupV_inv hd ▸ h3) (lsO_inv hl) (lsO_inv hl2) fl s1 s2 h (calm_nc R (not_el cl)) R e
end
theorem ex_ok (hT : TOk K T) (L : Lo K) (S : Snd K prog w n r) (hn : 10 <= n) (H : Hyp3 K prog w T) {c : Cx} {x : Stmt} {σ σ' : St} {v : Fl} {ρ : Rho} {A : Around} {env : Env} {s : Shared} (h : exA T r c x σ = some (v, σ', true)) (R : Rl K σ ρ s.heap) (e : EnvR A c ρ env) (hr : Room (n + 1) A) :
 Wp K prog w FlR A s ρ (exec x env) v σ' := by
 have rm := hr.le (Nat.le_succ n)
 cases x with
 | Pass p => exact fun Q E q => wpAny_Pass (ok_q h q ρ s _ R (.refl ..) (.refl _) .next)
 | Break p => exact fun Q E q => wpAny_Break (ok_q h q ρ s _ R (.refl ..) (.refl _) .brk)
 | Continue p => exact fun Q E q => wpAny_Continue (ok_q h q ρ s _ R (.refl ..) (.refl _) .cont)
 | Return x p =>
  cases x with
  | none => exact fun Q E q => wpAny_Return_none (ok_q h q ρ s _ R (.refl ..) (.refl _) (.ret rfl))
  | some x => exact fun Q E q => bn2_el h fun a σ₁ h1 h => wpAny_Return_some (S.ev h1 R e rm _ _ fun ρ1 s₁ u R1 X1 G1 V1 => ok_q h q ρ1 s₁ _ R1 X1 G1 (.ret V1))
 | Expr x p =>
  exact fun Q E q => gd_el h fun hc h => bn2_el h fun a σ₁ h1 h => gd_el h fun hv h => wpAny_Expr (S.ev h1 R e rm _ _ fun ρ1 s₁ u R1 X1 G1 V1 => by
   have hu := exprSt_ok hv V1
   have Z := ok_q h q ρ1 s₁ .next R1 X1 G1 .next
   cases u with
   | ref b => exact absurd rfl (hu b)
   | _ => exact Z) (inter_no e) (swaps_no (not_el hc) _ _ _)
 | Assign ts x p => exact bnd_el h fun t ht h => by rw [oneV_inv ht]; exact asgA_ok hT L S rm h R e
 | AugAssign t op x p =>
  exact fun Q E q => bnd_el h fun d ht h => bn2_el h fun b σ₁ h1 h => bn2_el h fun o σ2 h2 h => bn2_el h fun a σ3 h3 h => bn2_el h fun m σ4 h4 h => bn2_el h fun z σ5 h5 h => attE_el (C := fun t => wpAny (model prog w) A (exec (.AugAssign t op x p) env) Q E s) ht (wpAny_AugAssign_AttributeAny (
   S.ev h1 R e rm _ _ fun ρ1 s₁ u1 R1 X1 G1 V1 => getA_ok (s := s₁) hT L S h2 R1 V1 (e.fa.ex X1) hr _ _ fun ρ2 s2 u2 R2 X2 G2 V2 => S.ev (s := s2) h3 R2 (e.ex (X1.trans X2)) rm _ _ fun ρ3 s3 u3 R3 X3 G3 V3 =>
    inpA_ok (s := s3) h4 (V2.ex X3) V3 fun hs y tk V4 => setA_ok (s := { s3 with toks := tk }) hT L (hs ▸ h5) R3 (V1.ex (X2.trans X3)) V4 fun h₄ t4 R4 X4 => ok_q h q ρ3 _ _ R4 (((X1.trans X2).trans X3).trans X4) (((G1.trans G2).trans G3).trans (.ht _ _ _)) .next))
 | Delete ts p =>
  exact fun Q E q => bnd_el h fun d hd h => gd_el h fun ι h => bn2_el h fun a σ₁ h1 h => bn2_el h fun b σ2 h2 h => bn2_el h fun z σ3 h3 hE => bnd_el hd fun t ht hd => by
   rw [oneV_inv ht]
   cases t with
   | Subscript o k p2 =>
    obtain rfl := Option.some.inj hd
    exact wpAny_Delete (wpAny_deleteEach_cons (wpAny_delete_Subscript (S.ev h1 R e rm _ _ fun ρ1 s₁ u R1 X1 G1 V1 => S.ev (s := s₁) h2 R1 (e.ex X1) rm _ _ fun ρ2 s2 u2 R2 X2 G2 V2 =>
     delA_ok (s := s2) hT L S (e.fa.ex (X1.trans X2)) rm h3 R2 (V1.ex X2) V2 fun ρ3 s3 R3 X3 G3 => wpAny_deleteEach_nil (ok_q hE q ρ3 s3 _ R3 ((X1.trans X2).trans X3) ((G1.trans G2).trans G3) .next))))
   | _ => exact none_el hd
 | If t a b p =>
  exact fun Q E q => bn2_el h fun tv σ₁ h1 h => wpAny_If (S.tr h1 R e rm _ _ fun ρ1 s₁ u R1 X1 G1 V1 => by
   rw [V1]
   cases tv
   · exact exs_ok S rm (s := s₁) (pk_f h) R1 (e.ex X1) _ _ fun ρ2 s2 u2 R2 X2 G2 V2 => q ρ2 s2 u2 R2 (X1.trans X2) (G1.trans G2) V2
   · exact exs_ok S rm (s := s₁) (pk_t h) R1 (e.ex X1) _ _ fun ρ2 s2 u2 R2 X2 G2 V2 => q ρ2 s2 u2 R2 (X1.trans X2) (G1.trans G2) V2)
 | While t b l p => exact fun Q E q => gd_el h fun hl h => by rw [isNil_inv hl]; exact wpAny_While (wh_ok S rm h R e _ q)
 | For t it b l p => exact gd_el h fun g h => and_el g fun hl hs => by rw [isNil_inv hl]; exact forSt_ok hT L S rm hs h R e
 | Try b hs l f p => exact gd_el h fun g h => and_el g fun h1 h2 => by rw [isNil_inv h1, isNil_inv h2]; exact tryX_ok hT L H.h (hr.le (Nat.le_succ_of_le hn)) h R e
 | _ => exact none_el h
noncomputable def JnOk (K : Frag) (prog : Program) (w : World) : Prop :=
 ∀ {σ σ' : St} {ρ : Rho} {vs : List AV} {us : List Value} {v : AV} {A : Around} {s : Shared}, joinFn vs σ = some (v, σ', true) -> Rl K σ ρ s.heap -> VRs ρ vs us -> FrA A ρ -> Room 60 A -> Cd K prog w RtR A s ρ (.call (.ref 908) ⟨us, []⟩) v σ'
theorem call_ok (hT : TOk K T) (L : Lo K) (S : Snd K prog w n r) (hn : 10 <= n) (hB : Big T -> 60 <= n) (hJ : nlook 908 T.fns ≠ none -> JnOk K prog w) {f : Addr} {vs : List AV} {ks : List (Str × AV)} {σ σ' : St} {v : AV} {ρ : Rho} {A : Around} {us : List Value} {uks : List (Str × Value)} {s : Shared} (h : callA T r f vs ks σ = some (v, σ', true)) (R : Rl K σ ρ s.heap) (V : VRs ρ vs us) (W : KRs ρ ks uks) (fa : FrA A ρ) (hr : Room (n + 1) A) :
 Cd K prog w RtR A s ρ (.call (.ref f) ⟨us, uks⟩) v σ' :=
 pk2_el h (fun hb h => gd_el h fun hk h => bnd_el h fun fs hq h => isNil_ks (C := fun uks => Cd K prog w RtR A s ρ (.call (.ref f) ⟨us, uks⟩) v σ') hk W (by
  rw [Nat.eq_of_beq_eq_true hb]
  exact hJ (by rw [hq]; nofun) h R V fa (hr.le (Nat.le_succ_of_le (hB (.inr (by rw [hq]; nofun))))))) fun ι h =>
 bnd_el h fun fs h1 h => bnd_el h fun fn h2 h => bnd_el h fun l h3 h => bn2_el h fun fl σ₁ h4 h => bnd_el h fun v' hv h => ok_el h (by
  obtain ⟨hm, hnp, hkw⟩ := pickFn_ok h2
  have F := hT.fn f fs fn h1 hm
  have B := binds_ok V W h3
  have hln : us.length = fn.npos := by rw [V.length, hnp, len_eq]
  have hks := sameKws_ok W hkw
  unfold bodyA at h4
  unfold frAt
  cases F.ki with
  | plain k1 k2 k3 k4 k5 =>
   rw [k1, k2] at h4
   rw [k1]
   exact call_plain L S F k3 k4 (k5 s us uks R.gd.kin hln hks) B h4 hv R fa hr
  | dict x k1 k2 k3 k4 k5 k6 k7 =>
   rw [k1, k2] at h4
   rw [k1]
   exact call_dict L S F k3 k4 k5 k6 (k7 s us uks R.gd.kin hln hks) B (gd_el h4 fun ι h => h) hv R fa hr
  | cell x k1 k2 k3 k4 k5 k6 k7 k8 =>
   rw [k1, k2] at h4
   rw [k1]
   refine bnd_el h4 fun cv hcv h4 => ?_
   have e : uks = [] := List.map_eq_nil_iff.mp (hks.trans k7)
   subst e
   exact call_cell L S F k3 k4 k5 k6 (k8 us hln) B hcv h4 hv R fa hr)
theorem step_ok (hT : TOk K T) (L : Lo K) (H : Hyp3 K prog w T) (hJ : nlook 908 T.fns ≠ none -> JnOk K prog w) (hL : LexOk K prog w T n r) (hn : 10 <= n) (hB : Big T -> 60 <= n) (S : Snd K prog w n r) : Snd K prog w (n + 1) (step T r) where
 ev h R e hr := ev_ok hT L S hn hB H hL h R e hr
 tr h R e hr := tr_ok (T := T) S hn h R e (hr.le (Nat.le_succ n))
 ex h R e hr := ex_ok hT L S hn H h R e hr
 call h R V W fa hr := call_ok hT L S hn hB hJ h R V W fa hr
theorem run_ok (hT : TOk K T) (L : Lo K) (H : Hyp3 K prog w T) (hJ : nlook 908 T.fns ≠ none -> JnOk K prog w) (hL : ∀ {n r}, 10 <= n -> Snd K prog w n r -> LexOk K prog w T n r) {b : Nat} (hb : 10 <= b) (hB : Big T -> 60 <= b) : ∀ n, Snd K prog w (n + b) (run T n)
 | 0 => snd0
 | n + 1 => by
  have S := run_ok hT L H hJ hL hb hB n
  have := step_ok (n := n + b) hT L H hJ (hL (by lia) S) (by lia) (fun z => by have := hB z; lia) S
  rw [Nat.add_right_comm] at this; exact this
theorem isLex_at {σ : St} {ρ : Rho} {h : Heap} {i : Nat} {a : Addr} (e : isLex σ i = true) (R : Rl K σ ρ h) (ha : nth ρ.l i = some a) : ∃ da es m, InstAt h a (instObj 889 da) 889 (some (dictOf es m)) :=
 and_el e fun ι e => isSome_el e fun l e => bnd_el e fun p h1 e => gd_el e fun hC hd => by
  have h1 := instOf_eq h1
  rw [Nat.eq_of_beq_eq_true hC] at h1
  exact inst_any R h1 ha hd
theorem isLex_nc {σ : St} {ρ : Rho} {h : Heap} {i : Nat} (e : isLex σ i = true) (R : Rl K σ ρ h) : 0 ∉ ρ.fs /\ len σ ≠ 0 :=
 and_el e fun hc e => isSome_el e fun l e => bnd_el e fun p h1 e => ⟨calm_nc R (not_el hc), fun z => by
  have := nth_len (instOf_eq h1)
  rw [<- len_eq, z] at this
  exact absurd this (Nat.not_lt_zero _)⟩
section
variable {M : Model} {A : Around} {E : Value -> Shared -> Prop} {s : Shared} {x C f : Addr} {ox : Obj} {od : Option Obj}
theorem nextFn {Q : Option Value -> Shared -> Prop} (X : K.In s.heap) (I : InstAt s.heap x ox C od) (hs : findIn K (.ref C) "__next__" = some (some (.ref f))) (hf : isFn K (.ref f) = true)
 (h : wpAny M A (call (.ref f) [.ref x]) (fun v s' => Q (some v) s') (fun e s' => s'.TypeIs e "StopIteration" /\ Q none s') s) : wpAny M A (pyNext (.ref x)) Q E s := by
 unfold pyNext
 refine wpAny_bind (wpAny_attempt (special_fn (name := "__next__") (args := []) X I hs (beq_iff_eq.mp hf) (wpAny_mono h (fun v s' hq => wpAny_pure hq) fun e s' he => ?_)))
 exact wpAny_bind (wpAny_isInstance he.1 isSubtype_stop (wpAny_pure he.2))
theorem iterFn {Q : Value -> Shared -> Prop} {g : Value} (X : K.In s.heap) (I : InstAt s.heap x ox C od) (hs : findIn K (.ref C) "__iter__" = some (some (.ref f))) (hf : isFn K (.ref f) = true) (hg : findIn K (.ref C) "__next__" = some (some g))
 (h : wpAny M A (call (.ref f) [.ref x]) (fun v s' => v = .ref x /\ K.In s'.heap /\ (∃ ox od, InstAt s'.heap x ox C od) /\ Q (.ref x) s') E s) : wpAny M A (pyIter (.ref x)) Q E s := by
 have fin : wpAny M A (call (.ref f) [.ref x] >>= fun v => pure (some v)) (fun r s' => r = some (.ref x) /\ K.In s'.heap /\ (∃ ox od, InstAt s'.heap x ox C od) /\ Q (.ref x) s') E s :=
  wpAny_bind (wpAny_mono h (fun v s' h' => wpAny_pure ⟨by rw [h'.1], h'.2⟩) fun ι ι z => z)
 have one : ∀ refuse : Sem Value, wpAny M A (callSpecialIfBoundUnlessNone? (.ref x) "__iter__" refuse) (fun r s' => r = some (.ref x) /\ K.In s'.heap /\ (∃ ox od, InstAt s'.heap x ox C od) /\ Q (.ref x) s') E s := by
  intro refuse
  simp only [callSpecialIfBoundUnlessNone?, bindSpecialIfBound?]
  refine wpAny_holding (wpAny_bind (wpAny_bind (wpAny_bind (I.type.here ((looks_findIn X hs).here ?_)))))
  refine wpAny_bind (wpAny_askSetting (wpAny_ite ?_))
  have fin2 : wpAny M A (if (Value.ref f == Value.none) = true then (refuse >>= fun v => pure (some v)) else (call (.ref f) [.ref x] >>= fun v => pure (some v))) (fun r s' => r = some (.ref x) /\ K.In s'.heap /\ (∃ ox od, InstAt s'.heap x ox C od) /\ Q (.ref x) s') E s := by
   rw [if_neg (show ¬ ((Value.ref f == Value.none) = true) from Bool.false_ne_true)]
   exact fin
  split
  · exact wpAny_bind ((bind_fn X _ (beq_iff_eq.mp hf)).here (wpAny_pure (by exact fin2)))
  · exact wpAny_tryCatch (wpAny_bind ((bind_fn X _ (beq_iff_eq.mp hf)).here (wpAny_pure (by exact fin2))))
 unfold pyIter
 refine wpAny_bind (wpAny_bind (I.type.here ((looks_findIn X hs).here ?_)))
 show wpAny M A (callSpecialIfBoundUnlessNone? (.ref x) "__iter__" _ >>= _) Q E s
 refine wpAny_bind (wpAny_mono (one _) (fun r s' hr => ?_) fun ι ι z => z)
 obtain ⟨rfl, X', ⟨ox', od', I'⟩, hq⟩ := hr
 exact wpAny_bind (wpAny_bind (I'.type.here ((looks_findIn X' hg).here (wpAny_pure hq))))
end
theorem ifE_el {s : Stmt} {q : Expr × List Stmt} {C : Stmt -> Prop} (h : ifE s = some q) (k : ∀ p, C (.If q.1 q.2 [] p)) : C s :=
 onC_el h fun hb => Stmt.If.elim (motive_2 := fun s => ifE s = some q -> C s) s hb (fun t a b p h => gd_el h fun hb h => isNil_inv hb ▸ som_e2 (q := fun q => (∀ p, C (.If q.1 q.2 [] p)) -> C (.If t a [] p)) h (fun k => k p) k) h
theorem raiE_el {s : Stmt} {x : Str} {C : Stmt -> Prop} (h : raiE s = some x) (k : ∀ px p, C (.Raise (some (.Name x px)) none p)) : C s :=
 onC_el h fun hb => Stmt.Raise.elim (motive_2 := fun s => raiE s = some x -> C s) s hb (fun e c p h => gd_el h fun hc h => bnd_el h fun e' h1 h => isNone_inv hc ▸ h1 ▸ nameOf_el (C := fun n => C (.Raise (some n) none p)) h fun px => k px p) h
theorem retE_el {s : Stmt} {e : Expr} {C : Stmt -> Prop} (h : retE s = some e) (k : ∀ p, C (.Return (some e) p)) : C s :=
 onC_el h fun hb => Stmt.Return.elim (motive_2 := fun s => retE s = some e -> C s) s hb (fun e' p h => (show e' = some e from h) ▸ k p) h
theorem bov_el {b : List Stmt} {q : NxB} {C : List Stmt -> Prop} (h : bov b = some q) (k : ∀ px pr pi pe, C [q.s0, .If q.t [.Raise (some (.Name q.x px)) none pr] [] pi, .Return (some q.e) pe]) : C b :=
 bnd_el h fun d h1 h => bnd_el h fun i h2 h => bnd_el h fun s h3 h => bnd_el h fun x h4 h => bnd_el h fun e h5 h => by
  obtain rfl := Option.some.inj h
  rw [threeV_inv h1]
  refine ifE_el (C := fun z => C [d.1, z, d.2.2]) h2 fun pi => ?_
  rw [oneV_inv h3]
  exact raiE_el (C := fun z => C [d.1, .If i.1 [z] [] pi, d.2.2]) h4 fun px pr => retE_el (C := fun z => C [d.1, .If i.1 [.Raise (some (.Name x px)) none pr] [] pi, z]) h5 fun pe => k px pr pi pe
theorem next_body (hT : TOk K T) (L : Lo K) (S : Snd K prog w n r) {c : Cx} {d : NxB} {σ σ' : St} {v : Option Str} {ρ : Rho} {A : Around} {s : Shared} {env : Env} {px : Pos} {pr pi pe : Pos} {Q' : Flow -> Shared -> Prop} {E : Value -> Shared -> Prop} (h : nextV T r c σ d = some (v, σ', true)) (R : Rl K σ ρ s.heap) (e : EnvR A c ρ env) (rd : Room n A) (nc : 0 ∉ ρ.fs) (hd : ∃ frs, A.frames = some (env :: frs)) (hf : env.frame = some env.locals)
 (q : ∀ ρ' s' σ₁ t x, σ' = setNth σ₁ c.fid .junk -> Rl K σ₁ ρ' s'.heap -> Ex ρ s.heap ρ' s'.heap -> Gs s s' -> v = some x -> Q' (.ret (.str x t)) s')
 (qe : ∀ ρ' s' σ₁ xe, σ' = setNth σ₁ c.fid .junk -> Rl K σ₁ ρ' s'.heap -> Ex ρ s.heap ρ' s'.heap -> Gs s s' -> v = none -> s'.TypeIs (.ref xe) "StopIteration" -> E (.ref xe) s') :
 wpAny (model prog w) A (execs [d.s0, .If d.t [.Raise (some (.Name d.x px)) none pr] [] pi, .Return (some d.e) pe] env) Q' (fun e s' => wpAny (model prog w) A (leaving env e) (fun ι s'' => E e s'') (fun e' s'' => E e' s'') s') s := by
 refine bn2_el h fun fl σ₁ h1 h => gd_el h fun hfl h => bn2_el h fun tb σ2 h2 h => ?_
 refine wpAny_execs_cons (S.ex h1 R e rd _ _ fun ρ1 s₁ u R2 X1 G1 V1 => ?_)
 induction V1 with
 | next =>
  refine wpAny_execs_cons (wpAny_If (S.tr (s := s₁) h2 R2 (e.ex X1) rd _ _ fun ρ2 s2 u R3 X2 G2 V2 => ?_))
  rw [V2]
  have X12 := X1.trans X2
  have e2 := e.ex X12
  cases tb with
  | true =>
   refine bn2_el (pk_t h) fun qv σ3 h3 h => bnd_el h fun f hf' h => gd_el h fun hfn h => ?_
   rw [typV_inv hf'] at h3
   refine wpAny_execs_cons (owsi_raiseC rd.2.2 ((name_exact hT h3 R3 e2).2 _ _ fun c' Vc => ⟨strN_ok hfn ▸ Vc, rfl⟩) fun h' xe hm => ?_)
   have hx : Heap.NewExc s2.heap h' xe "StopIteration" := by
    obtain ⟨t0, ht, _⟩ := hm.there
    exact ⟨hm.keeps, hm.new, _, .ref t0, ht, rfl, rfl⟩
   unfold leaving
   have nc3 : 0 ∉ ρ2.fs := by rw [X12.es]; exact nc
   obtain ⟨frs, hl2⟩ := hd
   refine wpAny_bind (note_new (s := s2) (s₁ := { s2 with heap := h' }) L R3 e2.fa nc3 hl2 rfl hx fun a0 h'' hfl ut tn => ?_)
   obtain ⟨R4, X4⟩ := R3.turn L (frames_ok R3 e2.fa nc3 hl2).1 tn
   obtain ⟨ob, hob, hobc⟩ := hfl.there
   exact qe _ _ _ xe (ok_el (P := fun ι σ' => σ' = setNth σ2 c.fid .junk) h rfl) R4 (X12.trans X4) ((G1.trans G2).trans (.hh _ _)) (ok_el (P := fun v ι => v = none) h rfl) ⟨ob, hob, hobc⟩
  | false =>
   refine bn2_el (pk_f h) fun ev σ3 h3 h => wpAny_execs_nil (wpAny_execs_cons (wpAny_Return_some (S.ev (s := s2) h3 R3 e2 rd _ _ fun ρ3 s3 u R4 X3 G3 V3 => str_vr h V3 fun str tk h => ?_)))
   exact q _ s3 _ tk str (ok_el (P := fun ι σ' => σ' = setNth σ3 c.fid .junk) h rfl) R4 (X12.trans X3) ((G1.trans G2).trans G3) (ok_el (P := fun v ι => v = some str) h rfl)
 | _ => exact ff_el hfl
theorem next_ok (hT : TOk K T) (L : Lo K) (S : Snd K prog w n r) {f : Addr} {fn : Fn} (F : FnOk K f fn) (hp : plainFn1 fn = true) {i : Nat} {a : Addr} {σ σ' : St} {v : Option Str} {ρ : Rho} {A : Around} {E : Value -> Shared -> Prop} {s : Shared} {Q : Value -> Shared -> Prop} (h : nextA T r fn i σ = some (v, σ', true)) (R : Rl K σ ρ s.heap) (ha : nth ρ.l i = some a) (fa : FrA A ρ) (hd1 : A.depth + 1 + n < recursionLimit) (hu1 : A.units + 3 + 8 * n < cLine) (hh : A.handled = none)
 (q : ∀ ρ' s' t x, Rl K σ' ρ' s'.heap -> Ex ρ s.heap ρ' s'.heap -> Gs s s' -> v = some x -> Q (.str x t) s') (qe : ∀ ρ' s' e, Rl K σ' ρ' s'.heap -> Ex ρ s.heap ρ' s'.heap -> Gs s s' -> v = none -> s'.TypeIs (.ref e) "StopIteration" -> E (.ref e) s') :
 wpAny (model prog w) A (call (.ref f) [.ref a]) Q E s :=
 gd_el h fun hlex h => bnd_el h fun l hb h => bnd_el h fun d hbo h => and_el hp fun p1 hp => and_el hp fun p2 hp => and_el hp fun p3 p4 => by
  obtain ⟨oc, od, sl, ho⟩ := F.at_
  have B := binds_ok (.cons ⟨a, ha, rfl⟩ .nil : VRs ρ [.ref i] [.ref a]) KRs.nil hb
  have lex := isLex_nc hlex R
  cases F.ki with
  | dict y k1 => rw [k1] at p3; exact ff_el p3
  | cell y k1 k2 => rw [k2] at p4; exact ff_el p4
  | plain k1 k2 k3 k4 k5 =>
   have hbd := k5 s [.ref a] [] R.gd.kin (Nat.eq_of_beq_eq_true p1).symm (isNil_inv p2).symm
   refine wpAny_call (codeAny_call_def (fd := fn.fd) (body := fn.body) (binds := bindsV [.ref a] [] fn.binds) (by lia) (R.gd.kin _ _ ho) rfl R.gd.lim (codeRec_of R.gd.kin F.code) F.body hbd k3 (fun y hy => ?_) (fun h₀ hns hk => ?_) F.co F.ge F.kd)
   · obtain ⟨p, hp, e⟩ := List.mem_map.mp hy
     exact e ▸ k4 p hp
   · have R0 := R.push L hk (get_size _) (.ns hns fun y b hy => by
      obtain ⟨u, hu, hv⟩ := look_KRs B hy
      exact .inr ⟨u, lookup_rev (by rw [bindsV_names]; exact F.nd) (look_mem hu), hv.up ⟨⟨_, rfl⟩, .refl _⟩⟩)
     have X0 : Ex ρ s.heap ⟨ρ.l ++ [s.heap.objs.size], ρ.F, ρ.X, ρ.fs⟩ h₀ := .push hk (get_size _)
     have hL : nth (ρ.l ++ [s.heap.objs.size]) (len σ) = some s.heap.objs.size := by rw [len_eq, <- R.len]; exact nth_last _ _
     have hi : σ.length <= len σ := by rw [len_eq]; exact Nat.le_refl _
     obtain ⟨frs, hfrs, _⟩ := id fa
     have G0 := Gs.ht s h₀ (s.toks + (bindsV [.ref a] [] fn.binds).length)
     refine bov_el (C := fun b => wpAny _ _ (execs b _) _ _ _) hbo fun px pr pi pe => next_body (c := ⟨len σ, fn.fd.scope, []⟩) (σ := σ ++ [.ns l]) (ρ := ⟨ρ.l ++ [s.heap.objs.size], ρ.F, ρ.X, len σ :: ρ.fs⟩) (s := { s with heap := h₀, toks := s.toks + (bindsV [.ref a] [] fn.binds).length }) (E := E) hT L S h (R0.withFs (fs_push R (by rw [len_eq]; exact nth_last _ _)))
      ⟨rfl, F.kd, hL, F.gl, F.bl, fun x i hx => none_el hx, fa.enter ⟨_, rfl⟩ F.kd hL rfl, ⟨_, frs, Around.frames_deeper hfrs, rfl⟩⟩ ⟨hd1, hu1, hh⟩ (fun m => (List.mem_cons.mp m).elim (fun z => lex.2 z.symm) lex.1) ⟨frs, Around.frames_deeper hfrs⟩ rfl
      (fun ρ' s' σ₁ t x es R' X' G' hv => ?_) fun ρ' s' σ₁ xe es R' X' G' hv ht => ?_
     · obtain ⟨R5, X5⟩ := leave_ok R hi X0 R' X'
       exact q _ s' t x (es ▸ R5) X5 (G0.trans G') hv
     · obtain ⟨R5, X5⟩ := leave_ok R hi X0 R' X'
       exact qe _ s' xe (es ▸ R5) X5 (G0.trans G') hv ht
structure LexFacts (K : Frag) : Prop where
 it : findIn K (.ref 889) "__iter__" = some (some (.ref 879))
 itf : isFn K (.ref 879) = true
 nx : findIn K (.ref 889) "__next__" = some (some (.ref 886))
 nxf : isFn K (.ref 886) = true
 nl : findIn K (.ref 889) "__len__" = some none
 nh : findIn K (.ref 889) "__length_hint__" = some none
theorem lex_loop (hT : TOk K T) (L : Lo K) (S : Snd K prog w n r) (LF : LexFacts K) {fn : Fn} (F : FnOk K 886 fn) (hp : plainFn1 fn = true) {i m : Nat} {a SA : Addr} {A : Around} (hd1 : A.depth + 1 + n < recursionLimit) (hu1 : A.units + 4 + 8 * n < cLine) (hh : A.handled = none)
 {ρ₀ : Rho} {h₀ : Heap} (ha : nth ρ₀.l i = some a) (hm : ρ₀.l.length = m) (hS : h₀.get? SA = none) {s₀ : Shared} {l : List PyData} {σ' : St} {Q : Result -> Shared -> Prop} (fl : fit l = true)
 (q : ∀ ρ' s' lV c', Rl K σ' ρ' s'.heap -> Out K σ' ρ' SA -> Ex ρ₀ h₀ ρ' s'.heap -> Gs s₀ s' -> ρ'.l = ρ₀.l -> s'.heap.get? SA = some (listOf ⟨lV⟩ c') -> FRs ρ'.F l lV -> Q (.ok (.ret .none)) s') :
 ∀ (k : Nat) {acc : List PyData} {σ : St} {ρ : Rho} {s : Shared} {accV : List Value} {c : Nat}, wordsA T r fn i m k acc σ = some (l, σ', true) -> Rl K σ ρ s.heap -> Out K σ ρ SA -> ρ.l = ρ₀.l -> Ex ρ₀ h₀ ρ s.heap -> Gs s₀ s -> (∀ j ∈ ρ.fs, j < m) -> FrA A ρ -> s.heap.get? SA = some (listOf ⟨accV⟩ c) -> FRs ρ.F acc accV ->
  codeAny (model prog w) A (.builtin "list.extend.loop" ⟨[.ref SA, .ref a, .none], []⟩) Q s := by
 intro k
 induction k with
 | zero => exact fun h => none_el h
 | succ k ih =>
  intro acc σ ρ s accV c h R O ql X G hfm fa gS W
  refine bn2_el h fun v σ₁ h1 h => ?_
  have npj : SA ≠ PJ := fun z => O.l (.inr (.inr (.inr (.inr z))))
  have ha' : nth ρ.l i = some a := by rw [ql]; exact ha
  have RL := R.lockOut O gS
  have hlex : isLex σ i = true := gd_el h1 fun z ι => z
  obtain ⟨da, es, mm, I⟩ := isLex_at hlex R ha'
  have faL : FrA A.in1 ⟨ρ.l, ρ.F, ρ.X.add SA (listOf ⟨accV⟩ c), ρ.fs⟩ := (fa.ofL rfl rfl).in1
  -- what is known behind the call
  have behind : ∀ (ρ' : Rho) (s' : Shared), Rl K σ₁ ρ' s'.heap -> Ex ⟨ρ.l, ρ.F, ρ.X.add SA (listOf ⟨accV⟩ c), ρ.fs⟩ s.heap ρ' s'.heap -> Gs s s' ->
   Rl K (cutS m m σ₁) ⟨ρ'.l.take m, ρ'.F, ρ.X, ρ.fs⟩ s'.heap /\ Out K (cutS m m σ₁) ⟨ρ'.l.take m, ρ'.F, ρ.X, ρ.fs⟩ SA /\ ρ'.l.take m = ρ₀.l /\ Ex ρ₀ h₀ ⟨ρ'.l.take m, ρ'.F, ρ.X, ρ.fs⟩ s'.heap /\ s'.heap.get? SA = some (listOf ⟨accV⟩ c) /\ FRs ρ'.F acc accV := by
   intro ρ' s' R' X' G'
   have hfm' : ∀ j ∈ ρ'.fs, j < m := by rw [show ρ'.fs = ρ.fs from X'.es]; exact hfm
   obtain ⟨X4, ql4⟩ := X.thru ql X' hm
   have R4 := R'.cut hfm'
   rw [show ρ'.X = ρ.X.add SA (listOf ⟨accV⟩ c) from X'.xs, show ρ'.fs = ρ.fs from X'.es] at R4
   obtain ⟨R5, O5, gI⟩ := R4.unlockOut O.x O.l
   exact ⟨R5, O5, ql4, X4, gI, W.mono X'.fr⟩
  refine codeAny_builtin PySem.F.entry_extend_loop ?_
  rw [Around.under_plainId PySem.F.plain_extend_loop _]
  show wpAny _ A.in1 (pyNext (.ref a) >>= _) _ _ s
  refine wpAny_bind (nextFn RL.gd.kin I LF.nx LF.nxf (next_ok (s := s) hT L S F hp h1 RL ha' faL hd1 (by show A.units + 1 + 3 + 8 * n < _; assumption) hh (fun ρ' s' t x R' X' G' hv => ?_) (fun ρ' s' e R' X' G' hv hty => ⟨hty, ?_⟩)))
  · rw [hv] at h
    refine chk_el h fun fa1 h => ?_
    have fa1 := fit_ok fa1
    obtain ⟨R5, O5, ql5, X5, gS5, W5⟩ := behind ρ' s' R' X' G'
    show wpAny _ A.in1 (updateSeq SA (·.push (.str x t)) >>= _) _ _ _
    have sb : Heap.SameBut SA s'.heap (s'.heap.update SA (Obj.mapSeq (·.push (.str x t)))) := Heap.SameBut.update ..
    have sz : (⟨accV⟩ : Array Value).size = acc.length := by rw [size_mk, W.length]
    refine wpAny_bind (wpAny_updateSeq gS5 rfl (wpAny_pure ⟨plainId_quiet PySem.F.plain_extend_loop _, ?_⟩) (by rw [sz, sizeLine_eq]; exact le_c ‹_› rfl) (by show ((⟨accV⟩ : Array Value).push _).size <= sizeLine + 1; rw [Array.size_push, sz, sizeLine_eq]; exact lt_c ‹_› rfl))
    have gS6 : (s'.heap.update SA (Obj.mapSeq (·.push (.str x t)))).get? SA = some (listOf ⟨accV ++ [.str x t]⟩ (c + 1)) := by
     have := IsL.update gS5 (fun xs => xs.push (.str x t))
     rw [this]
     simp
    exact ih (accV := accV ++ [.str x t]) h (R5.outStep L O5 (sameBut_keep sb)) O5 ql5 (X5.out hS npj (sameBut_keep sb)) (G.trans (G'.trans (.hh _ _))) hfm (fa.ofL (ql5.trans ql.symm) rfl) gS6 (W5.append (.cons (.str x t) .nil))
  · rw [hv] at h
    obtain ⟨R5, O5, ql5, X5, gS5, W5⟩ := behind ρ' s' R' X' G'
    have q := ok_q (q := fun l σ' => ∀ ρ' s' lV c', Rl K σ' ρ' s'.heap -> Out K σ' ρ' SA -> Ex ρ₀ h₀ ρ' s'.heap -> Gs s₀ s' -> ρ'.l = ρ₀.l -> s'.heap.get? SA = some (listOf ⟨lV⟩ c') -> FRs ρ'.F l lV -> Q (.ok (.ret .none)) s') h q
    exact wpAny_pure (q _ s' accV c R5 O5 X5 (G.trans G') ql5 gS5 W5)
theorem words_lex {fn : Fn} {i m k : Nat} {acc l : List PyData} {σ σ' : St} (h : wordsA T r fn i m k acc σ = some (l, σ', true)) : isLex σ i = true := by
 cases k with
 | zero => exact none_el h
 | succ k => exact bn2_el h fun v σ₁ h1 h => gd_el h1 fun z ι => z
theorem ref_ne_type (C : Addr) (X : String) : (Value.ref C == Value.type X) = false := beq_eq_false_iff_ne.mpr nofun
theorem Ex.addNew {ρ ρ' : Rho} {h h' : Heap} {b : Addr} (x : Ex ρ h ρ' h') (z : h.get? b = none) : Ex ρ h ⟨ρ'.l ++ [b], ρ'.F, ρ'.X, ρ'.fs⟩ h' := by
 obtain ⟨t, e, ht⟩ := x.pre
 refine ⟨⟨t ++ [b], by show ρ'.l ++ [b] = _; rw [e, List.append_assoc], fun c hc => ?_⟩, x.fr, x.xs, x.es, x.keep, x.tab⟩
 rcases List.mem_append.mp hc with hc | hc
 · exact ht c hc
 · rw [List.mem_singleton] at hc; subst hc; exact .inr (.inr z)
theorem Ex.same {ρ ρ' : Rho} {h h' : Heap} (x : Ex ρ h ρ' h') : Ex ρ' h ρ' h' := by
 obtain ⟨t, e, ht⟩ := x.pre
 exact ⟨⟨[], by simp, nofun⟩, .refl _, rfl, rfl, fun b o g nb np => x.keep b o g (fun z => nb (by rw [e]; exact List.mem_append_left _ z)) np, x.tab⟩
theorem lex_ok (hT : TOk K T) (L : Lo K) (LF : LexFacts K) (S : Snd K prog w n r) : LexOk K prog w T n r := by
 intro σ σ₁ σ' ρ i a fn l A s hlex hp hfn hcall hw fl R ha fa hr Q E q
 have F := hT.fn 886 [fn] fn hfn (.head _)
 obtain ⟨da, es, mm, I⟩ := isLex_at hlex R ha
 have hS : (s.heap.push { cls := .type "list", data := .seq #[] }).get? s.heap.objs.size = some { cls := .type "list", data := .seq #[] } := Heap.get?_push_size _ rfl
 refine callType_codes (Q₁ := fun obj s₁ => obj = .ref s.heap.objs.size /\ s₁ = { s with heap := s.heap.push { cls := .type "list", data := .seq #[] } }) PySem.F.called_list (PySem.F.typeCall_list_1 _) PySem.F.entry_list_init
  (code_list_new _ ⟨rfl, rfl⟩) fun obj s₁ h1 => ?_
 obtain ⟨rfl, rfl⟩ := h1
 refine ⟨⟨_, hS, rfl⟩, PySem.F.args_list_init_2 _ _, ?_⟩
 show wpAny _ A.in1.in1 (do let old <- Builtin.List.listItems (.ref s.heap.objs.size); Builtin.List.listUpdate (.ref s.heap.objs.size) (fun ι => #[]); letGo old.toList.reverse; Builtin.List.listExtendWith (.ref s.heap.objs.size) (.ref a) .none) _ _ _
 refine wpAny_bind ?_
 unfold Builtin.List.listItems
 refine wpAny_bind (wpAny_seqItems hS rfl (wpAny_pure ?_))
 show wpAny _ A.in1.in1 (updateSeq s.heap.objs.size (fun ι => #[]) >>= fun ι => letGo (#[] : Array Value).toList.reverse >>= fun ι => Builtin.List.listExtendWith (.ref s.heap.objs.size) (.ref a) .none) _ _ _
 refine wpAny_bind (wpAny_updateSeq hS rfl ?_)
 have hS2 := Heap.get?_update_self (Obj.mapSeq (fun ι => (#[] : Array Value))) hS rfl
 have kp : ∀ b o, s.heap.get? b = some o -> ((s.heap.push { cls := .type "list", data := .seq #[] }).update s.heap.objs.size (Obj.mapSeq (fun ι => (#[] : Array Value)))).get? b = some o := fun b o e =>
  (Heap.get?_update_other _ _ (fun z : s.heap.objs.size = b => Nat.lt_irrefl _ (z ▸ Heap.lt_size e))).trans (push_keep _ _ b o e)
 refine wpAny_bind (wpAny_letGo ?_)
 generalize hh2 : (s.heap.push { cls := .type "list", data := .seq #[] }).update s.heap.objs.size (Obj.mapSeq (fun ι => (#[] : Array Value))) = h2 at hS2 kp ⊢
 have R2 := R.grow L kp
 have O2 := R.out (get_size s.heap)
 obtain ⟨da2, es2, mm2, I2⟩ := isLex_at hlex R2 ha
 have RL := R2.lockOut O2 hS2
 have ne : s.heap.objs.size ≠ a := fun z => none_el ((get_size s.heap).symm.trans (z ▸ I.at_))
 unfold Builtin.List.listExtendWith
 refine wpAny_bind (I2.type.here ?_)
 have e1 : Builtin.List.listSameRef (.ref s.heap.objs.size) (.ref a) = false := by simp [Builtin.List.listSameRef, ne]
 simp only [e1, ref_ne_type, Bool.or_false, Bool.false_eq_true, if_false]
 refine wpAny_bind (iterFn (s := { s with heap := h2 }) RL.gd.kin I2 LF.it LF.itf LF.nx ?_)
 refine call_of_cd (s := { s with heap := h2 }) (S.call (s := { s with heap := h2 }) (us := [.ref a]) (uks := []) hcall RL (.cons ⟨a, ha, rfl⟩ .nil) .nil (fa.ofL rfl rfl).in1.in1 ⟨by have := hr.1; show A.depth + n < _; exact le_t ‹_›, by have := hr.2.1; show A.units + 1 + 1 + 8 * n < _; lia, hr.2.2⟩) fun ρ' s' u R' X' G' V' => ?_
 obtain ⟨a', ha', rfl⟩ := V'
 obtain rfl := Option.some.inj ((nth_ex X' ha).symm.trans ha')
 obtain ⟨l', F', X2, fs2⟩ := ρ'
 have fe : fs2 = ρ.fs := X'.es
 have xe : X2 = ρ.X.add s.heap.objs.size _ := X'.xs
 subst fe; subst xe
 obtain ⟨R5, O5, gS5⟩ := R'.unlockOut O2.x O2.l
 have hlex1 := words_lex hw
 obtain ⟨da3, es3, mm3, I3⟩ := isLex_at hlex1 R5 ha'
 refine ⟨rfl, R5.gd.kin, ⟨_, _, I3⟩, ?_⟩
 refine wpAny_bind (wpAny_holding ?_)
 unfold Builtin.List.listLengthHint
 refine wpAny_bind (wpAny_bind (I3.type.here ((looks_findIn R5.gd.kin LF.nl).here ?_)))
 show wpAny _ A.in1.in1 (specialOf (Value.ref a) (Zs "__length_hint__") >>= _) _ _ _
 refine wpAny_bind (wpAny_bind (I3.type.here ((looks_findIn R5.gd.kin LF.nh).here ?_)))
 refine wpAny_pure ?_
 show wpAny _ A.in1.in1 (rule "list.extend.makes-room" >>= fun ι => Builtin.List.listTouch (.ref s.heap.objs.size) >>= fun ι =>
  again (.builtin "list.extend.loop" ⟨[.ref s.heap.objs.size, .ref a, .none], []⟩)) _ _ _
 refine wpAny_bind (wpAny_rule ?_)
 refine wpAny_bind ?_
 show wpAny _ A.in1.in1 (updateSeq s.heap.objs.size (·.push .none) >>= fun ι => updateSeq s.heap.objs.size (·.pop)) _ _ _
 refine wpAny_bind (wpAny_updateSeq gS5 rfl ?_ (by show (#[] : Array Value).size <= sizeLine; simp) (by show ((#[] : Array Value).push Value.none).size <= sizeLine + 1; simp [sizeLine_eq]))
 have gS6 := Heap.get?_update_self (Obj.mapSeq (·.push Value.none)) gS5 rfl
 refine wpAny_updateSeq (hz := by show ((#[] : Array Value).push Value.none).size <= sizeLine; simp [sizeLine_eq]) gS6 rfl ?_
 have gS7 := Heap.get?_update_self (Obj.mapSeq (·.pop)) gS6 rfl
 have sb : ∀ b o, b ≠ s.heap.objs.size -> s'.heap.get? b = some o -> ((s'.heap.update s.heap.objs.size (Obj.mapSeq (·.push Value.none))).update s.heap.objs.size (Obj.mapSeq (·.pop))).get? b = some o := fun b o nb e =>
  (Heap.get?_update_other _ _ (Ne.symm nb)).trans ((Heap.get?_update_other _ _ (Ne.symm nb)).trans e)
 have R7 := R5.outStep L O5 sb
 have npj : s.heap.objs.size ≠ PJ := fun z => O2.l (.inr (.inr (.inr (.inr z))))
 have XL : Ex ρ s.heap ⟨l', F', ρ.X, ρ.fs⟩ s'.heap := (Ex.grow kp).trans ⟨X'.pre, X'.fr, rfl, rfl, X'.keep, X'.tab⟩
 refine wpAny_pure ⟨plainId_quiet PySem.F.plain_extend_loop _, ?_⟩
 have hlen : l'.length = len σ₁ := by rw [len_eq]; exact R5.len
 refine lex_loop (A := A.in1) (ρ₀ := ⟨l', F', ρ.X, ρ.fs⟩) (h₀ := s.heap) (s₀ := s) hT L S LF F hp (by have := hr.1; show A.depth + 1 + n < _; exact le_s ‹_›) (by have := hr.2.1; show A.units + 1 + 4 + 8 * n < _; lia) hr.2.2 ha' hlen (get_size s.heap) fl (fun ρ8 s8 lV c8 R8 O8 X8 G8 ql8 gS8 W8 => ?_) 1000 (acc := []) (σ := σ₁) (ρ := ⟨l', F', ρ.X, ρ.fs⟩) (accV := []) hw R7 O5 rfl (XL.same.out (get_size s.heap) npj sb) ((Gs.hh s h2).trans (G'.trans (.hh _ _))) (fun j mj => ?_) (fa.ex XL).in1 gS7 .nil
 · refine ⟨rfl, ?_⟩
   have X9 := XL.mix X8
   refine q _ s8 _ (R8.addOut O8 (.list gS8 W8)) (X9.addNew (get_size s.heap)) G8 ⟨s.heap.objs.size, ?_, rfl⟩
   show nth (ρ8.l ++ [s.heap.objs.size]) (len σ') = _
   rw [len_eq, <- R8.len]; exact nth_last _ _
 · obtain ⟨ln, hl⟩ := R5.fr j mj
   have := nth_len hl
   rw [len_eq]; exact this
theorem Rl.table {σ : St} {ρ : Rho} {h h' : Heap} {vs more : Array Value} (L : Lo K) (R : Rl K σ ρ h) (k : ∀ b o, b ≠ PJ -> h.get? b = some o -> h'.get? b = some o) (g : h.get? PJ = some (tabObj vs)) (g' : h'.get? PJ = some (tabObj (vs ++ more))) (ht : TriplesOk (vs ++ more).toList) : Rl K σ ρ h' /\ Ex ρ h ρ h' := by
 refine ⟨⟨R.gd.keeps L fun b o ι n e => k b o n e, R.len, R.nd, R.lo, fun i a o e f => ?_, fun a o e => k _ _ (fun z => ?_) (R.fin a o e), fun a o e => k _ _ (fun z => ?_) (R.xin a o e), R.fz, R.fx, ⟨_, g', ht⟩, R.fr, R.pj⟩, ⟨⟨[], by simp, nofun⟩, .refl _, rfl, rfl, fun b o e ι n => k b o n e, fun vs' e => ?_⟩⟩
 · cases q : shut o with
   | true => exact (R.ob i a o e f).shutUp q (.refl _)
   | false => exact (R.ob i a o e f).move (.refl _) fun p g => k _ _ (R.npj e f q) g
 · rw [z, R.pj.1] at e; cases e
 · rw [z, R.pj.2] at e; cases e
 · rw [g] at e
   injection e with e
   injection e with e1 e2 e3 e4
   injection e3 with e3
   subst e3
   exact ⟨more, g'⟩
noncomputable def QuOk (K : Frag) (prog : Program) (w : World) : Prop :=
 ∀ {x y : Str} {A : Around} {E : Value -> Shared -> Prop} {s : Shared} {t : Tok} {Q : Value -> Shared -> Prop}, look x quotTab = some y -> Gd K s.heap -> A.handled = none -> A.depth + 10 < recursionLimit -> A.units + 80 < cLine ->
  (∀ h' tk t', (∀ b o, s.heap.get? b = some o -> h'.get? b = some o) -> Q (.str y t') { s with heap := h', toks := tk }) -> wpAny (model prog w) A (call (.ref 916) [.str x t]) Q E s
end
section
set_option maxRecDepth 100000
variable {K : Frag} {prog : Program} {w : World} {T : Tp} {n : Nat} {r : Rec}
theorem mro_deque : mroOf (.type "collections.deque") = pure [.type "collections.deque", .type "object"] := by rw [mroOf_type]; kernel_rfl
theorem lookup_deque_new : typeLookup (.type "collections.deque") "__new__" = pure (some (.builtin "collections.deque.__new__")) := by rw [typeLookup_type, builtinLookup_eq_fast]; kernel_rfl
theorem slot_deque_init : Slot "collections.deque" "__init__" "collections.deque.__init__" :=
 .of (owner := "collections.deque") (n := "__init__") (by rw [typeLookup_type, builtinLookup_eq_fast]; kernel_rfl) (by decide +kernel) (by decide +kernel) (by decide +kernel)
  (by first | exact .inl (by decide +kernel) | exact .inr (by decide +kernel)) (by rw [isSubtype_type]; kernel_rfl)
theorem called_deque : TypeCalled "collections.deque" "collections.deque.__new__" "collections.deque.__init__" :=
 ⟨by decide +kernel, by decide +kernel, ⟨_, _, mro_deque⟩, madeBy_type mro_deque lookup_deque_new (by decide +kernel), by decide +kernel, by rw [isSubtype_type]; kernel_rfl, slot_deque_init⟩
theorem typeCall_deque : checkTypeCall "collections.deque" ⟨[], []⟩ = pure () := by kernel_rfl
theorem newCall_deque : checkBuiltinCall "collections.deque.__new__" ⟨[.type "collections.deque"], []⟩ = pure () := by kernel_rfl
theorem entry_deque_new : entryFor table "collections.deque.__new__" = some Builtin.«collections.deque.__new__» := entryFor_of_tree (by kernel_rfl)
theorem entry_deque_init : entryFor table "collections.deque.__init__" = some Builtin.«collections.deque.__init__» := entryFor_of_tree (by kernel_rfl)
theorem args_deque_init (a : Value) : argsOk "collections.deque.__init__" ⟨[a], []⟩ := by unfold argsOk; kernel_rfl
theorem plain_deque_new : plainId "collections.deque.__new__" = true := by decide +kernel
theorem sub_deque_self : isSubtype (.type "collections.deque") (.type "collections.deque") = pure true := by rw [isSubtype_type]; kernel_rfl
theorem code_deque_new {A : Around} {E : Value -> Shared -> Prop} {s : Shared} {Q₁ : Value -> Shared -> Prop} (h : Q₁ (.ref s.heap.objs.size) { s with heap := s.heap.push { cls := .type "collections.deque", data := .fields #[.none, rawInt 0] } }) :
 codeAny (model prog w) A (.call (.builtin "collections.deque.__new__") ⟨[.type "collections.deque"], []⟩) (wants Q₁ E) s := by
 refine codeAny_of_tree ?_
 show wpAny _ A.in1 (do checkBuiltinCall "collections.deque.__new__" ⟨[.type "collections.deque"], []⟩; again (.builtin "collections.deque.__new__" ⟨[.type "collections.deque"], []⟩)) _ _ s
 refine wpAny_bind (wpAny_of_eq newCall_deque (wpAny_pure ⟨plainId_quiet plain_deque_new _, codeAny_builtin entry_deque_new ?_⟩))
 rw [Around.under_plainId plain_deque_new _]
 have hsub := sub_deque_self
 obtain ⟨hp, g, d, tk, os⟩ := s
 have hd : typeHasDict (.type "collections.deque") = false := by decide +kernel
 have e1 : Builtin.Deque.newArgs Builtin.Deque.ty ⟨[.type "collections.deque"], []⟩ = pure (.type "collections.deque", []) := by
  unfold Builtin.Deque.newArgs Builtin.Deque.ty
  dsimp only
  rw [hsub]
  rfl
 have e2 : Builtin.Deque.new (.type "collections.deque") #[] none = newObj (.type "collections.deque") (.fields #[.none, rawInt 0]) none := by
  unfold Builtin.Deque.new
  rw [hd]
  rfl
 unfold Builtin.«collections.deque.__new__»
 rw [e1]
 refine wpAny_bind (wpAny_pure ?_)
 dsimp only
 rw [e2]
 refine wpAny_bind (wpAny_newObj_type ?_ (by size_fits))
 exact wpAny_pure h
theorem deq_ok (L : Lo K) : DeqOk K prog w := by
 intro σ ρ A s R hr Q E q
 have hS : (s.heap.push { cls := .type "collections.deque", data := .fields #[.none, rawInt 0] }).get? s.heap.objs.size = some { cls := .type "collections.deque", data := .fields #[.none, rawInt 0] } := Heap.get?_push_size _ rfl
 refine callType_codes (Q₁ := fun obj s₁ => obj = .ref s.heap.objs.size /\ s₁ = { s with heap := s.heap.push { cls := .type "collections.deque", data := .fields #[.none, rawInt 0] } }) called_deque typeCall_deque entry_deque_init
  (code_deque_new ⟨rfl, rfl⟩) fun obj s₁ h1 => ?_
 obtain ⟨rfl, rfl⟩ := h1
 refine ⟨⟨_, hS, rfl⟩, args_deque_init _, ?_⟩
 show wpAny _ A.in1.in1 (do setField (.ref s.heap.objs.size) 0 .none; Builtin.Deque.clear (.ref s.heap.objs.size); ret .none) _ _ _
 refine wpAny_bind (wpAny_setField hS rfl (by decide) ?_)
 have hS2 := Heap.get?_update_self (Obj.mapFields (·.setIfInBounds 0 Value.none)) hS rfl
 unfold Builtin.Deque.clear Builtin.Deque.items
 refine wpAny_bind (wpAny_bind (wpAny_bind (wpAny_fieldsOf hS2 rfl (wpAny_pure ?_))))
 rw [if_neg (by decide)]
 refine wpAny_pure (wpAny_pure ⟨rfl, ?_⟩)
 have kp : ∀ b o, s.heap.get? b = some o -> ((s.heap.push { cls := .type "collections.deque", data := .fields #[.none, rawInt 0] }).update s.heap.objs.size (Obj.mapFields (·.setIfInBounds 0 Value.none))).get? b = some o := fun b o e =>
  (Heap.get?_update_other _ _ (fun z : s.heap.objs.size = b => Nat.lt_irrefl _ (z ▸ Heap.lt_size e))).trans (push_keep _ _ b o e)
 refine q _ _ _ (R.push L kp (get_size _) (.deq hS2 rfl rfl rfl)) (.push kp (get_size _)) (.hh _ _) ⟨s.heap.objs.size, ?_, rfl⟩
 show nth (ρ.l ++ [s.heap.objs.size]) (len σ) = _
 rw [len_eq, <- R.len]; exact nth_last _ _
end
section
variable {K : Frag} {prog : Program} {w : World} {T : Tp} {n : Nat} {r : Rec}
section
variable {A : Around} {E : Value -> Shared -> Prop} {s : Shared}
theorem my_list_sort {a : Addr} {vs out : List Value} {n : Nat} {P : PySem.Fin -> Shared -> Prop} (ho : s.heap.get? a = some (seqObj "list" vs.toArray n)) (h2 : 2 <= vs.length) (h64 : vs.length < 64)
 (hk : ∀ h', (∀ b o, b ≠ a -> s.heap.get? b = some o -> h'.get? b = some o) -> wpAny (model prog w) A (keyKind' vs.toArray) (fun κ s' => (kas_sort vs.length).kasWp (kas_ask prog w A κ vs) (fun p s'' => s'' = { s with heap := h' } /\ p.toList.map (fun i => vs.getD i Value.none) = out) s') (fun ι ι => False) { s with heap := h' })
 (q : ∀ h' e, (∀ b o, b ≠ a -> s.heap.get? b = some o -> h'.get? b = some o) -> h'.get? a = some (seqObj "list" out.toArray e) -> P (.done (.ret .none)) { s with heap := h' }) :
 wpAny (model prog w) A (Builtin.«list.sort» ⟨[.ref a], []⟩) P E s := by
 have ha : a < s.heap.objs.size := Heap.lt_size ho
 obtain ⟨e1, ho1⟩ : ∃ e1, (s.heap.update a (Obj.mapSeq fun ι => (#[] : Array Value))).get? a = some (seqObj "list" #[] e1) := ⟨_, get?_update_seq ho fun ι => #[]⟩
 have ho6 : (((s.heap.update a (Obj.mapSeq fun ι => (#[] : Array Value))).push (seqObj "tuple" vs.toArray 0)).push (seqObj "list" #[] 0)).get? a = some (seqObj "list" #[] e1) :=
  Heap.get?_push_of_some _ (Heap.get?_push_of_some _ ho1)
 have kp : ∀ b o, b ≠ a -> s.heap.get? b = some o -> (((s.heap.update a (Obj.mapSeq fun ι => (#[] : Array Value))).push (seqObj "tuple" vs.toArray 0)).push (seqObj "list" #[] 0)).get? b = some o := fun b o n e =>
  Heap.get?_push_of_some _ (Heap.get?_push_of_some _ (by rw [Heap.get?_update_ne _ _ _ _ n]; exact e))
 have ask := hk _ kp
 rw [list_sort_plain]
 refine wpAny_bind (listItems_at ho rfl ?_)
 refine wpAny_bind (listUpdate_at ho rfl ?_ (by rw [List.size_toArray, sizeLine_eq]; lia) (Nat.zero_le _))
 refine wpAny_bind (seqEpoch_at ho1 rfl ?_)
 refine wpAny_bind (wpAny_newTuple ?_ (by show vs.length <= _; rw [sizeLine_eq]; lia))
 refine wpAny_bind (wpAny_newList ?_ (Nat.zero_le _))
 refine wpAny_holding ?_
 show wpAny (model prog w) A _ P E { s with heap := ((s.heap.update a (Obj.mapSeq fun ι => (#[] : Array Value))).push (seqObj "tuple" vs.toArray 0)).push (seqObj "list" #[] 0) }
 dsimp only
 have hn2 : ¬ vs.toArray.size < 2 := by rw [List.size_toArray]; lia
 rw [if_neg hn2, if_neg hn2]
 refine wpAny_bind (wpAny_mono ask (fun κ s0 hk => ?_) fun ι ι x => x.elim)
 refine wpAny_bind (wpAny_mono (kat_run (Q := fun st' s' => ∃ p : Array Nat, p.size = vs.length /\ arrOf st' = p.map (kas_item (vs.toArray.zip vs.toArray)) /\ failedOf st' = none /\ (s' = _ /\ p.toList.map (fun i => vs.getD i Value.none) = out))
  rfl h2 h64 (fun p' st' s' a1 a2 a3 a4 => ⟨p', a1, a2, a3, a4⟩) hk) ?_ fun ι ι e => e)
 rintro ⟨⟨⟩, st'⟩ s' ⟨p, hp, har, hf, rfl, ho'⟩
 dsimp only
 have hout := kat_snds rfl har
 have hsz : out.toArray.size = vs.length := by rw [<- ho', List.size_toArray, List.length_map, Array.length_toList, hp]
 rw [hout, ho']
 refine wpAny_bind (seqEpoch_at ho6 rfl ?_)
 refine wpAny_bind (listUpdate_at ho6 rfl ?_ (Nat.zero_le _) (Nat.le_trans (Nat.le_of_eq hsz) (by rw [sizeLine_eq]; lia)))
 rw [hf]
 simp only [bne_self_eq_false, Bool.false_eq_true, if_false]
 refine wpAny_pure (q _ _ (fun b o nb e => ?_) (get?_update_seq ho6 fun ι => out.toArray))
 rw [Heap.get?_update_ne _ _ _ _ nb]; exact kp b o nb e
theorem my_sorted {l : Addr} {vs out : List Value} {Q : Value -> Shared -> Prop} (hl : s.heap.IsList l vs.toArray) (h2 : 2 <= vs.length) (h64 : vs.length < 64)
 (hk : ∀ h', (∀ b o, s.heap.get? b = some o -> h'.get? b = some o) -> wpAny (model prog w) A.in1.in1 (keyKind' vs.toArray) (fun κ s' => (kas_sort vs.length).kasWp (kas_ask prog w A.in1.in1 κ vs) (fun p s'' => s'' = { s with heap := h' } /\ p.toList.map (fun i => vs.getD i Value.none) = out) s') (fun ι ι => False) { s with heap := h' })
 (q : ∀ h' e D, (∀ b o, s.heap.get? b = some o -> h'.get? b = some o) -> s.heap.get? D = none -> h'.get? D = some (seqObj "list" out.toArray e) -> Q (.ref D) { s with heap := h' }) :
 wpAny (model prog w) A (call (.builtin "sorted") [.ref l]) Q E s := by
 refine Calls.call_function_entry kind_sorted plain_sorted entry_sorted (args_sorted1 _) ?_
 unfold Builtin.«sorted»
 refine wpAny_bind (m := checkCount "sorted" 1 1 _) (wpAny_pure ?_)
 refine wpAny_bind (collect_list hl ?_ (by rw [sizeLine_eq]; lia))
 refine wpAny_bind (wpAny_newList ?_ (by rw [sizeLine_eq]; lia))
 have hsz : ((s.heap.push (seqObj "list" #[] 0)).update s.heap.objs.size (Obj.mapSeq (· ++ vs.toArray))).objs.size = s.heap.objs.size + 1 := by
  rw [Heap.size_update, size_push']
 have hoL : (((s.heap.push (seqObj "list" #[] 0)).update s.heap.objs.size (Obj.mapSeq (· ++ vs.toArray))).push (seqObj "list" vs.toArray 0)).get? (s.heap.objs.size + 1) = some (seqObj "list" vs.toArray 0) := by
  rw [<- hsz]; exact Heap.get?_push_size _ rfl
 have keep : ∀ b o, s.heap.get? b = some o -> (((s.heap.push (seqObj "list" #[] 0)).update s.heap.objs.size (Obj.mapSeq (· ++ vs.toArray))).push (seqObj "list" vs.toArray 0)).get? b = some o := fun b o q => by
  have hlt : b < s.heap.objs.size := Heap.lt_size q
  rw [Heap.get?_push_ne _ _ _ (by rw [hsz]; exact Nat.ne_of_lt (Nat.lt_succ_of_lt hlt)), Heap.get?_update_ne _ _ _ _ (Nat.ne_of_lt hlt), Heap.get?_push_ne _ _ _ (Nat.ne_of_lt hlt)]
  exact q
 have z1 : s.heap.get? (s.heap.objs.size + 1) = none := by
  cases e : s.heap.get? (s.heap.objs.size + 1) with
  | none => rfl
  | some o => exact absurd (Heap.lt_size e) (Nat.not_lt.mpr (Nat.le_succ _))
 have ne : ∀ {b o}, s.heap.get? b = some o -> b ≠ s.heap.objs.size + 1 := fun e z => by rw [z, z1] at e; exact none_el e
 show wpAny _ _ _ _ _ { s with heap := ((s.heap.push (seqObj "list" #[] 0)).update s.heap.objs.size (Obj.mapSeq (· ++ vs.toArray))).push (seqObj "list" vs.toArray 0) }
 rw [hsz]
 refine wpAny_bind (wpAny_holding (wpAny_call_entry slot_list_sort ⟨_, hoL, rfl⟩ entry_list_sort ?body (args_list_sort _)))
 case body =>
  refine my_list_sort (s := { s with heap := ((s.heap.push (seqObj "list" #[] 0)).update s.heap.objs.size (Obj.mapSeq (· ++ vs.toArray))).push (seqObj "list" vs.toArray 0) }) (out := out) hoL h2 h64 (fun h' k => hk h' fun b o e => k b o (ne e) (keep b o e)) fun h' e k g => ?_
  exact ⟨_, rfl, wpAny_pure ⟨_, rfl, q h' e _ (fun b o e => k b o (ne e) (keep b o e)) z1 g⟩⟩
theorem lex_ok2 {F : Fz} {b fin : Bool} {Q : Bool -> Shared -> Prop} {d : List PyData} : ∀ {e : List PyData} {xs ys : List Value} {c : Bool} {i : Nat}, pdLt d e = some c -> FRs F d xs -> FRs F e ys -> (i = 0 -> b = true) -> (d.length = e.length -> fin = false) -> Q c s -> KatLex prog w A b fin Q (xs.zip ys) i s := by
 induction d with
 | nil =>
  intro e xs ys c i h U V _ hf q
  refine gd_el (show gd (isNil e) (some false) = some c from h) fun h1 h2 => ?_
  cases isNil_inv h1
  refine FRs.nil_el U (FRs.nil_el V (kat_nil ?_))
  rw [<- Option.some.inj h2, <- hf rfl] at q
  exact q
 | cons a d ih =>
  intro e xs ys c i h U V h0 hf q
  cases e with
  | nil => exact none_el (show (none : Option Bool) = some c from h)
  | cons a2 e =>
   refine bnd_el (show bnd (intP a) (fun a => bnd (intP a2) fun b => pk (ieq a b) (pdLt d e) (some (ilt a b))) = some c from h) fun x hx h => bnd_el h fun y hy h => ?_
   rw [intP_inv hx] at U
   rw [intP_inv hy] at V
   refine FRs.cons_el U fun u us u1 U' => FRs.cons_el V fun v vs v1 V' => ?_
   obtain ⟨t, rfl⟩ := u1.out
   obtain ⟨t', rfl⟩ := v1.out
   refine kat_cons (wpAny_eqBool_int ?_)
   rw [ieq_beq]
   refine pk2_el h (fun z h => ?_) fun z h => ?_
   · rw [z]
     exact kat_yes (ih h U' V' (fun z => absurd z (Nat.succ_ne_zero _)) (fun z => hf (congrArg Nat.succ z)) q)
   · rw [z]
     refine kat_no ?_
     rw [<- Option.some.inj h, <- ilt_dec] at q
     cases i with
     | zero =>
      rw [h0 rfl]
      exact oneLt_int q
     | succ i =>
      rw [show (b && (i + 1 == 0)) = false from Bool.and_false b]
      exact kat_one _ _ (wpAny_lt_int q)
theorem frs_getD {F : Fz} {l : List PyData} {vs : List Value} {i : Nat} {d : PyData} (V : FRs F l vs) : nth l i = some d -> FR F d (vs.getD i Value.none) :=
 FRs.ind (P := fun l vs => ∀ i, nth l i = some d -> FR F d (vs.getD i Value.none)) (fun i h => none_el (show (none : Option PyData) = some d from h)) (fun a ι ih i h => by
  cases i with
  | zero => exact Option.some.inj h ▸ a
  | succ i => exact ih i h) V i
theorem ask1 {F : Fz} {l : List PyData} {vs : List Value} (V : FRs F l vs) (k : FSub F s.heap.get?) {i j : Nat} {b : Bool} {Q : Bool -> Shared -> Prop} (h : tupLt l i j = some b) (q : Q b s) : kas_ask prog w A (tuples' true) vs i j Q s :=
 bnd_el h fun d h1 h => bnd_el h fun e h2 h => bnd_el h1 fun d' h1 hd => bnd_el h2 fun e' h2 he => by
  have v1 := frs_getD V h1
  have v2 := frs_getD V h2
  rw [tupP_inv hd] at v1
  rw [tupP_inv he] at v2
  obtain ⟨_, _, _, e1, f1, r1⟩ := v1.out
  obtain ⟨_, _, _, e2, f2, r2⟩ := v2.out
  unfold kas_ask
  rw [e1, e2]
  refine kat_lt (k _ _ f1) rfl (k _ _ f2) rfl (lex_ok2 h r1 r2 (fun ι => rfl) (fun z => ?_) q)
  rw [<- r1.length, <- r2.length] at z
  exact decide_eq_false (by rw [size_mk, size_mk, z]; exact Nat.lt_irrefl _)
theorem ask_ok {F : Fz} {l : List PyData} {vs : List Value} (V : FRs F l vs) (k : FSub F s.heap.get?) {G : Array Nat -> Shared -> Prop} {t : KasT (Array Nat)} : ∀ {p : Array Nat}, treeR (tupLt l) t = some p -> G p s -> t.kasWp (kas_ask prog w A (tuples' true) vs) G s := by
 induction t with
 | ret a => exact fun h g => Option.some.inj h ▸ g
 | ask i j t ih => exact fun {p} h g => bnd_el (show bnd (tupLt l i j) (fun b => treeR (tupLt l) (t b)) = some p from h) fun b e h => ask1 V k e (ih b h g)
theorem tups_ok {F : Fz} {h : Heap} (k : FSub F h.get?) {l : List PyData} {vs : List Value} (e : allT l = true) (V : FRs F l vs) : ∃ fs, KatTups h vs fs /\ fs.length = l.length /\ ∀ v ∈ fs, ∃ x t, v = .int x t :=
 FRs.ind (P := fun l vs => allT l = true -> ∃ fs, KatTups h vs fs /\ fs.length = l.length /\ ∀ v ∈ fs, ∃ x t, v = .int x t) (fun ι => ⟨[], .nil, rfl, nofun⟩) (fun {d v l vs} U _ ih e => and_el (show ((bnd (tupP d) hdI).isSome && allT l) = true from e) fun e1 e2 => isSome_el e1 fun x e => bnd_el e fun m em e => by
  rw [tupP_inv em] at U
  obtain ⟨_, _, _, rfl, f, r⟩ := U.out
  cases m with
  | nil => exact none_el (show (none : Option Int) = some x from e)
  | cons m0 m =>
   rw [intP_inv (show intP m0 = some x from e)] at r
   obtain ⟨_, _, rfl, r1, r2⟩ := r.out
   obtain ⟨t, rfl⟩ := r1.out
   obtain ⟨fs, a, b, c⟩ := ih e2
   exact ⟨.int x t :: fs, .cons (k _ _ f) rfl rfl rfl a, congrArg Nat.succ b, fun v hv => (List.mem_cons.mp hv).elim (fun e => ⟨x, t, e⟩) (c v)⟩) V e
theorem picks_ok {F : Fz} {l : List PyData} {vs : List Value} (V : FRs F l vs) {p : List Nat} : ∀ {k : List PyData}, picks l p = some k -> FRs F k (p.map fun i => vs.getD i Value.none) := by
 induction p with
 | nil => exact fun {k} h => some_q (q := fun k => FRs F k []) (show some k = some [] from h.symm) .nil
 | cons i p ih => exact fun {k} h => bnd_el (show bnd (nth l i) (fun d => bnd (picks l p) fun ds => some (d :: ds)) = some k from h) fun d h1 h => bnd_el h fun ds h2 h => Option.some.inj h ▸ .cons (frs_getD V h1) (ih h2)
end
theorem sort_ok (L : Lo K) : SortOk K prog w := by
 intro σ ρ i a l k A s hi hs h60 h2 R ha hr Q E q
 obtain ⟨vs, m, g, V⟩ := (R.ob i a _ ha hi).out
 refine gd_el (show gd (allT l) _ = some k from hs) fun hall hs => bnd_el hs fun p hp hk => ?_
 have hl := V.length
 have n2 : 2 <= vs.length := by rw [hl]; exact h2
 have n6 : vs.length < 64 := by rw [hl]; exact Nat.lt_of_le_of_lt h60 (by decide)
 refine my_sorted (vs := vs) (out := p.toList.map fun i => vs.getD i Value.none) ⟨_, g, rfl, m, rfl⟩ n2 n6 (fun h' kp => ?_) fun h' e D kp z gD => ?_
 · have fk : FSub ρ.F h'.get? := fun a o e => kp a o (R.fin a o e)
   obtain ⟨fs, t, tl, ti⟩ := tups_ok fk hall V
   refine kat_kind (T := .type "int") t (by rw [tl, <- hl]; exact Nat.lt_of_lt_of_le (by decide) n2) (fun v hv => ?_) (by decide) ?_
   · obtain ⟨x, t, rfl⟩ := ti v hv; exact .now
   · rw [show (Value.type "int" != Value.type "tuple") = true from by decide]
     rw [len_eq, <- hl] at hp
     exact ask_ok (s := { s with heap := h' }) V fk hp ⟨rfl, rfl⟩
 · have hd : nth (ρ.l ++ [D]) (len σ) = some D := by rw [len_eq, <- R.len]; exact nth_last _ _
   have R' := R.push L kp z (o := .list k) (.list (n := e) gD (picks_ok V hk))
   exact q _ _ _ R' (.push kp z) (.hh _ _) ⟨D, hd, rfl⟩
end
section
open PySem.Builtin.Re
set_option maxRecDepth 100000
variable {K : Frag} {prog : Program} {w : World} {T : Tp} {n : Nat} {r : Rec}
noncomputable def drv : Nat -> Sre.M -> Option Sre.M
 | 0, _ => none
 | k + 1, m => match (m.runFor reTurnSteps).outcome.isSome with
  | true => some (m.runFor reTurnSteps)
  | false => drv k (m.runFor reTurnSteps)
section
variable {A : Around} {E : Value -> Shared -> Prop} {s : Shared}
theorem drv_ok {Q : Sre.M -> Shared -> Prop} (k : Nat) : ∀ (n : Nat) (m m' : Sre.M), drv k m = some m' -> k <= n -> Q m' s -> wpAny (model prog w) A (reDrive n m) Q E s := by
 induction k with
 | zero => intro n m m' h; cases h
 | succ k ih =>
  intro n m m' h hk q
  cases n with
  | zero => exact absurd hk (Nat.not_succ_le_zero _)
  | succ n =>
   rw [drv] at h
   rw [reDrive]
   generalize m.runFor reTurnSteps = m1 at h ⊢
   cases e : m1.outcome.isSome with
   | true => rw [e] at h; cases h; rw [if_pos rfl]; exact wpAny_pure q
   | false => rw [e] at h; rw [if_neg (by simp)]; exact wpAny_bind (wpAny_rule (ih n m1 m' h (Nat.le_of_succ_le_succ hk) q))
theorem rules_ok {c : Nat -> Bool} {g : Nat -> String} {Q : PUnit -> Shared -> Prop} : ∀ (l : List Nat), Q ⟨⟩ s -> wpAny (model prog w) A (forIn l PUnit.unit fun i ι => if c i then do rule (g i); pure (ForInStep.yield PUnit.unit) else pure (ForInStep.yield PUnit.unit)) Q E s
 | [], q => by rw [List.forIn_nil]; exact wpAny_pure q
 | i :: l, q => by
  rw [List.forIn_cons]
  refine wpAny_bind ?_
  cases c i with
  | true => rw [if_pos rfl]; exact wpAny_bind (wpAny_rule (wpAny_pure (rules_ok l q)))
  | false => rw [if_neg (by simp)]; exact wpAny_pure (rules_ok l q)
theorem toEnd_ok {k : Nat} {m m' : Sre.M} {Q : Option Sre.M -> Shared -> Prop} (h : drv k m = some m') (hk : k <= 2 ^ 64) (q : (m'.outcome = some .failed /\ Q none s) \/ (m'.outcome = some .matched /\ Q (some m') s)) : wpAny (model prog w) A (reRunToEnd m) Q E s := by
 unfold reRunToEnd
 refine wpAny_bind (drv_ok k _ m m' h hk ?_)
 refine wpAny_bind (rules_ok (c := fun i => m'.seen.has i) (g := fun i => Sre.names.getD i "") _ ?_)
 rcases q with ⟨e, q⟩ | ⟨e, q⟩
 · rw [e]; exact wpAny_pure q
 · rw [e]; exact wpAny_pure q
theorem entry_search : entryFor table "re.Pattern.search" = some Builtin.«re.Pattern.search» := entryFor_of_tree (by kernel_rfl)
theorem args_search (a v : Value) : argsOk "re.Pattern.search" ⟨[a, v], []⟩ := by unfold argsOk; kernel_rfl
theorem named_search (v : Value) : reNamed "re.Pattern.search" "search" ["string", "pos", "endpos"] 1 [v] [] = pure [some v, none, none] := by kernel_rfl
end
structure PatAt (K : Frag) (a : Addr) (code : Array Nat) : Prop where
 ex : ∃ o fs b o2 items n, K.lookup a = some o /\ o.cls = .type "re.Pattern" /\ o.data = .fields fs /\ fs.getD 5 .none = .ref b /\ reRawNat (fs.getD 6 .none) = 0 /\ reRawNat (fs.getD 2 .none) = 0 /\ K.lookup b = some o2 /\ o2.data = .seq items n /\ (items.map reRawOf).map (·.toNat) = code
noncomputable def SrPost (b : Bool) (s : Shared) (Q : Value -> Shared -> Prop) : Prop := match b with
 | false => ∀ tk, Q .none { s with toks := tk }
 | true => ∀ h' tk m, (∀ c o, s.heap.get? c = some o -> h'.get? c = some o) -> s.heap.get? m = none -> Q (.ref m) { s with heap := h', toks := tk }
noncomputable def bOut : Bool -> Sre.Outcome
 | false => .failed
 | true => .matched
theorem sr_body {a : Addr} {x : Str} {code : Array Nat} {k : Nat} {m : Sre.M} {b : Bool} (H : PatAt K a code) (hm : drv k (Sre.forSearch code x.cps 0 0 x.cps.size false) = some m) (hk : k <= 2 ^ 64) (hx : x.cps.size <= 1000) (hb : m.outcome = some (bOut b))
 {A : Around} {E : Value -> Shared -> Prop} {s : Shared} {t : Tok} {Q : Value -> Shared -> Prop} (X : K.In s.heap)
 (q : SrPost b s Q) :
 wpAny (model prog w) A (Builtin.«re.Pattern.search» ⟨[.ref a, .str x t], []⟩) (fun fin s' => ∃ v, fin = .done (.ret v) /\ Q v s') E s := by
 obtain ⟨o, fs, c, o2, items, n, h1, h2, h3, h4, h5, h6, h7, h8, h9⟩ := H.ex
 have g := X _ _ h1
 have g2 := X _ _ h7
 unfold Builtin.«re.Pattern.search»
 refine wpAny_bind (wpAny_mono (Q := fun (tg : ReTarget) s' => tg = ReTarget.mk (.ref a) (.str x t) code x.cps 0 0 0 x.cps.size /\ s' = s) ?_ ?_ fun ι ι e => e)
 · unfold reTarget
   dsimp only
   rw [named_search]
   refine wpAny_bind (wpAny_pure ?_)
   dsimp only
   refine wpAny_bind (wpAny_pure ?_)
   refine wpAny_bind (wpAny_pure ?_)
   refine wpAny_bind (wpAny_fieldsOf g h3 ?_)
   refine wpAny_bind (wpAny_bind (wpAny_pure (wpAny_pure ?_)))
   dsimp only
   rw [h5]
   rw [if_neg (by decide), if_neg (by decide)]
   refine wpAny_bind (m := reNoCollectionInside _ _) (wpAny_pure ?_)
   rw [h4]
   refine wpAny_bind (wpAny_bind (wpAny_bind (wpAny_load g2 ?_)))
   rw [h8]
   refine wpAny_pure (wpAny_pure (wpAny_pure ⟨?_, rfl⟩))
   rw [h6]
   congr 1
   show min (2 ^ 63 - 1 : Int).toNat x.cps.size = x.cps.size
   have : (2 ^ 63 - 1 : Int).toNat = 9223372036854775807 := by decide
   lia
 · rintro tg s' ⟨rfl, rfl⟩
   unfold reAnswer
   dsimp only
   cases b with
   | false =>
    refine wpAny_bind (toEnd_ok hm hk (.inl ⟨hb, ?_⟩))
    exact wpAny_pure ⟨_, rfl, q s'.toks⟩
   | true =>
    refine wpAny_bind (toEnd_ok hm hk (.inr ⟨hb, ?_⟩))
    dsimp only
    refine wpAny_bind ?_
    unfold reNewMatch
    dsimp only
    rw [if_neg (by simp)]
    refine wpAny_bind (wpAny_newTuple ?_ (Nat.le_of_ble_eq_true rfl))
    refine wpAny_newObj_type ?_ (by size_fits)
    refine wpAny_pure ⟨_, rfl, q _ s'.toks _ ?_ ?_⟩
    · exact fun b o e => push_keep _ _ _ _ (push_keep _ _ _ _ e)
    · cases e : s'.heap.get? _ with
      | none => rfl
      | some o => exact absurd (Heap.lt_size e) (Nat.not_lt.mpr (by rw [push_size]; exact Nat.le_succ _))
theorem sr_ok {a : Addr} {x : Str} {code : Array Nat} {k : Nat} {m : Sre.M} {b : Bool} (H : PatAt K a code) (hm : drv k (Sre.forSearch code x.cps 0 0 x.cps.size false) = some m) (hk : k <= 2 ^ 64) (hx : x.cps.size <= 1000) (hb : m.outcome = some (bOut b)) : SrOk K prog w a x b := by
 intro A E s t Q X q
 obtain ⟨o, fs, c, o2, items, n, h1, h2, h3, h4, h5, h6, h7, h8, h9⟩ := id H.ex
 exact wpAny_call_entry slot_pat_search ⟨_, X _ _ h1, h2⟩ entry_search (sr_body H hm hk hx hb X q) (args_search _ _)
end
section
open PySem.Builtin.Re
set_option maxRecDepth 100000
noncomputable def cd54 : Array Nat := #[14, 10, 4, 1, 1, 22, 0, 31, 16, 127, 0, 13, 7, 22, 0, 31, 16, 127, 0, 1]
noncomputable def cd59 : Array Nat := #[14, 14, 4, 1, 1, 9, 4294966783, 0, 0, 2147483648, 0, 0, 0, 0, 0, 13, 11, 9, 4294966783, 0, 0, 2147483648, 0, 0, 0, 0, 0, 1]
noncomputable def cd206 : Array Nat := #[14, 17, 4, 1, 1, 21, 9, 0, 604043296, 1, 0, 0, 0, 0, 0, 8, 4, 0, 13, 14, 21, 9, 0, 604043296, 1, 0, 0, 0, 0, 0, 8, 4, 0, 1]
noncomputable def srOut (code : Array Nat) (x : Str) : Option (Option Sre.Outcome) := (drv 20 (Sre.forSearch code x.cps 0 0 x.cps.size false)).map (·.outcome)
end
section
variable {K : Frag} {prog : Program} {w : World} {T : Tp} {n : Nat} {r : Rec}
open Classical in
noncomputable def Lk (σ : St) (ρ : Rho) (lc : List Addr) (h : Heap) : Fz := fun b => match ρ.X b with
 | some o => some o
 | none => if (∃ j o, nth ρ.l j = some b /\ nth σ j = some o /\ shut o = false) /\ b ∉ lc then h.get? b else none
theorem Lk_x {σ : St} {ρ : Rho} {lc : List Addr} {h : Heap} {b : Addr} {o : Obj} (e : ρ.X b = some o) : Lk σ ρ lc h b = some o := by unfold Lk; rw [e]
theorem Lk_o {σ : St} {ρ : Rho} {lc : List Addr} {h : Heap} {b : Addr} {j : Nat} {o : AO} (e : ρ.X b = none) (h1 : nth ρ.l j = some b) (h2 : nth σ j = some o) (h3 : shut o = false) (h4 : b ∉ lc) : Lk σ ρ lc h b = h.get? b := by
 unfold Lk; rw [e]; exact if_pos ⟨⟨j, o, h1, h2, h3⟩, h4⟩
theorem Lk_in {σ : St} {ρ : Rho} {lc : List Addr} {h : Heap} {b : Addr} (e : ρ.X b = none) (h4 : b ∈ lc) : Lk σ ρ lc h b = none := by
 unfold Lk; rw [e]; exact if_neg fun z => z.2 h4
set_option tactic.hygienic true in
theorem Lk_inv {σ : St} {ρ : Rho} {lc : List Addr} {h : Heap} {b : Addr} {o : Obj} (e : Lk σ ρ lc h b = some o) : ρ.X b = some o \/ (ρ.X b = none /\ h.get? b = some o /\ (∃ j o, nth ρ.l j = some b /\ nth σ j = some o /\ shut o = false) /\ b ∉ lc) := by
 unfold Lk at e
 split at e
 · rename_i o' q; cases e; exact .inl q
 · rename_i q
   split at e
   · rename_i z; exact .inr ⟨q, e, z⟩
   · cases e
theorem Rl.small {σ σc : St} {ρ : Rho} {h : Heap} {lc : List Addr} {fsc : List Nat} (R : Rl K σ ρ h) (hlen : lc.length = σc.length) (nd : ∀ i j a, nth lc i = some a -> nth lc j = some a -> i = j)
 (src : ∀ k a o, nth lc k = some a -> nth σc k = some o -> (∃ j p, nth ρ.l j = some a /\ nth σ j = some p /\ shut p = false) /\ OR ⟨lc, ρ.F, Lk σ ρ lc h, fsc⟩ h a o) (fr : ∀ i ∈ fsc, ∃ l, nth σc i = some (.ns l)) :
 Rl K σc ⟨lc, ρ.F, Lk σ ρ lc h, fsc⟩ h := by
 refine ⟨R.gd, hlen, fun i j a o p e f ι ι ι ι => nd i j a e f, fun i a o e f s => ?_, fun i a o e f => (src i a o e f).2, R.fin, fun b o e => ?_, fun i a o e f s => ?_, fun b o e => ?_, R.jt, fr, R.pj.1, ?_⟩
 · obtain ⟨⟨j, p, h1, h2, h3⟩, _⟩ := src i a o e f
   exact R.lo j a p h1 h2 h3
 · rcases Lk_inv e with e | ⟨_, e, _⟩
   · exact R.xin b o e
   · exact e
 · obtain ⟨⟨j, p, h1, h2, h3⟩, _⟩ := src i a o e f
   obtain ⟨z1, z2⟩ := R.fz j a p h1 h2 h3
   exact ⟨z1, Lk_in z2 (nth_mem e)⟩
 · rcases Lk_inv e with e | ⟨_, _, ⟨j, p, h1, h2, h3⟩, _⟩
   · exact R.fx b o e
   · exact (R.fz j b p h1 h2 h3).1
 · cases q : Lk σ ρ lc h PJ with
   | none => exact q
   | some o =>
    rcases Lk_inv q with q | ⟨_, _, ⟨j, p, h1, h2, h3⟩, _⟩
    · rw [R.pj.2] at q; cases q
    · exact absurd rfl (R.npj h1 h2 h3)
theorem Rl.back {σ σ' σc' : St} {ρ ρ' : Rho} {h h' : Heap} {lc : List Addr} {fsc : List Nat} (R : Rl K σ ρ h) (R' : Rl K σc' ρ' h') (X : Ex ⟨lc, ρ.F, Lk σ ρ lc h, fsc⟩ h ρ' h') (hin : ∀ a ∈ lc, a ∈ ρ.l) (hlen : σ'.length = σ.length)
 (ch : ∀ j a p', nth ρ.l j = some a -> nth σ' j = some p' -> (nth σ j = some p' /\ (shut p' = true \/ a ∉ lc)) \/ (∃ p, nth σ j = some p /\ shut p = false /\ OR ⟨ρ.l, ρ'.F, ρ.X, ρ.fs⟩ h' a p' /\ ρ'.F a = none)) (hfr : ∀ i ∈ ρ.fs, ∃ l, nth σ' i = some (.ns l)) :
 Rl K σ' ⟨ρ.l, ρ'.F, ρ.X, ρ.fs⟩ h' /\ Ex ρ h ⟨ρ.l, ρ'.F, ρ.X, ρ.fs⟩ h' := by
 have xs : ρ'.X = Lk σ ρ lc h := X.xs
 have op : ∀ {j a p'}, nth ρ.l j = some a -> nth σ' j = some p' -> shut p' = false -> ∃ p, nth σ j = some p /\ shut p = false := fun e f s => by
  rcases ch _ _ _ e f with ⟨z, _⟩ | ⟨p, z, s, _⟩
  · exact ⟨_, z, s⟩
  · exact ⟨p, z, s⟩
 have xin : FSub ρ.X h'.get? := fun b o e => R'.xin b o (by rw [xs]; exact Lk_x e)
 have same : ∀ {j a p}, nth ρ.l j = some a -> nth σ j = some p -> shut p = false -> a ∉ lc -> ∀ o, h.get? a = some o -> ρ'.X a = some o := fun e f s n o g => by
  rw [xs, Lk_o (R.fz _ _ _ e f s).2 e f s n]; exact g
 refine ⟨⟨R'.gd, by rw [hlen]; exact R.len, fun i j a o p e f g t u v => ?_, fun i a o e f s => ?_, fun i a o e f => ?_, R'.fin, xin, fun i a o e f s => ?_, fun b o e => R'.fx b o (by rw [xs]; exact Lk_x e), R'.jt, hfr, R'.pj.1, R.pj.2⟩, ⟨⟨[], by simp, nofun⟩, X.fr, rfl, rfl, fun b o e n z => X.keep b o e (fun m => n (hin b m)) z, X.tab⟩⟩
 · obtain ⟨o', g', u'⟩ := op e g u
   obtain ⟨p', t', v'⟩ := op f t v
   exact R.nd _ _ _ _ _ e f g' t' u' v'
 · obtain ⟨o', g', u'⟩ := op e f s
   exact R.lo _ _ _ e g' u'
 · rcases ch _ _ _ e f with ⟨z, s⟩ | ⟨p, _, _, q, _⟩
   · cases hs : shut o with
     | true => exact (R.ob i a o e z).shutUp hs ⟨⟨[], by simp⟩, X.fr⟩
     | false =>
      rcases s with s | s
      · rw [hs] at s; cases s
      · exact (R.ob i a o e z).move ⟨⟨[], by simp⟩, X.fr⟩ fun p g => R'.xin _ _ (same e z hs s p g)
   · exact q
 · rcases ch _ _ _ e f with ⟨z, q⟩ | ⟨p, z, hs, _, q⟩
   · rcases q with q | q
     · rw [s] at q; cases q
     · obtain ⟨p, g⟩ := (R.ob i a o e z).there s
       exact ⟨R'.fx a p (same e z s q p g), (R.fz i a o e z s).2⟩
   · exact ⟨q, (R.fz i a p e z hs).2⟩
noncomputable def rawV (l : List Addr) : AV -> AV
 | .ref i => (match nth l i with | some a => .raw (.ref a) | none => .unk)
 | v => v
noncomputable def rawN (l : List Addr) : List (Str × AV) -> List (Str × AV)
 | [] => []
 | p :: r => (p.1, rawV l p.2) :: rawN l r
theorem rawV_ok {ρ ρ' : Rho} {v : AV} {u : Value} (f : FSub ρ.F ρ'.F) (V : VR ρ v u) : VR ρ' (rawV ρ.l v) u := by
 cases v with
 | ref i => obtain ⟨a, h1, rfl⟩ := V; unfold rawV; dsimp only; rw [h1]; rfl
 | dat d => exact FR.mono f V
 | _ => exact V
theorem rawV_back {ρ ρ' : Rho} {v : AV} {u : Value} (f : FSub ρ'.F ρ.F) (hv : v ≠ .unk -> rawV ρ.l v ≠ .unk) (V : VR ρ' (rawV ρ.l v) u) : VR ρ v u := by
 cases v with
 | ref i =>
  cases h1 : nth ρ.l i with
  | none => exact absurd (show rawV ρ.l (.ref i) = .unk by unfold rawV; dsimp only; rw [h1]) (hv nofun)
  | some a =>
   have : u = .ref a := by have V2 := V; unfold rawV at V2; dsimp only at V2; rw [h1] at V2; exact V2
   exact ⟨a, h1, this⟩
 | dat d => exact FR.mono f V
 | _ => exact V
theorem look_rawN {l : List Addr} {x : Str} : ∀ {m : List (Str × AV)}, look x (rawN l m) = (look x m).map (rawV l)
 | [] => rfl
 | p :: m => by
  show (match seq x p.1 with | true => some (rawV l p.2) | false => look x (rawN l m)) = _
  rw [look_rawN]
  show _ = Option.map _ (match seq x p.1 with | true => some p.2 | false => look x m)
  cases seq x p.1 <;> rfl
end
section
set_option maxRecDepth 100000
theorem bn2_of {α β : Type} {x : Rs α} {f : α -> St -> Rs β} {a : α} {b : β} {σ₁ σ2 : St} (h1 : x = some (a, σ₁, true)) (h2 : f a σ₁ = some (b, σ2, true)) : bn2 x f = some (b, σ2, true) := by
 unfold bn2; rw [h1]; dsimp only; rw [h2]; rfl
theorem chk_of {β : Type} {x : Rs β} {t : Bool} {b : β} {σ : St} (h1 : t = true) (h2 : x = some (b, σ, true)) : chk t x = some (b, σ, true) := by subst h1; subst h2; kernel_rfl
theorem ok_eq {α : Type} {v : α} {σ : St} : ok v σ = some (v, σ, true) := by kernel_rfl
theorem exs_cons {r : Rec} {c : Cx} {s : Stmt} {l : List Stmt} {σ σ₁ σ2 : St} {f : Fl} (h1 : r.ex c s σ = some (.next, σ₁, true)) (h2 : exsA r c l σ₁ = some (f, σ2, true)) : exsA r c (s :: l) σ = some (f, σ2, true) := by
 unfold exsA; exact bn2_of h1 h2
theorem exs_ret {r : Rec} {c : Cx} {s : Stmt} {l : List Stmt} {σ σ₁ : St} {v : AV} (h1 : r.ex c s σ = some (.ret v, σ₁, true)) : exsA r c (s :: l) σ = some (.ret v, σ₁, true) := by
 unfold exsA; exact bn2_of h1 ok_eq
theorem exs_nil {r : Rec} {c : Cx} {σ : St} : exsA r c [] σ = some (.next, σ, true) := ok_eq
noncomputable def ifS (r : Rec) (c : Cx) (a b : List Stmt) : Bool -> St -> Rs Fl
 | true, σ => exsA r c a σ
 | false, σ => exsA r c b σ
theorem ex_if {T : Tp} {r : Rec} {c : Cx} {t : Expr} {a b : List Stmt} {p : Pos} {σ σ₁ : St} {tv : Bool} {f : Fl} {σ2 : St} (h1 : r.tr c t σ = some (tv, σ₁, true)) (h2 : ifS r c a b tv σ₁ = some (f, σ2, true)) : (step T r).ex c (.If t a b p) σ = some (f, σ2, true) := by
 have : (step T r).ex c (.If t a b p) σ = bn2 (r.tr c t σ) fun t σ => pk t (exsA r c a σ) (exsA r c b σ) := rfl
 rw [this]
 refine bn2_of h1 ?_
 cases tv with
 | true => rw [pk_true]; exact h2
 | false => rw [pk_false]; exact h2
theorem tr_and {T : Tp} {r : Rec} {c : Cx} {t u : Expr} {p : Pos} {σ σ₁ σ2 : St} {b : Bool} (h1 : r.tr c t σ = some (true, σ₁, true)) (h2 : r.tr c u σ₁ = some (b, σ2, true)) : (step T r).tr c (.BoolOp .And [t, u] p) σ = some (b, σ2, true) := by
 have : (step T r).tr c (.BoolOp .And [t, u] p) σ = trsA r c true [t, u] σ := rfl
 rw [this]
 unfold trsA
 refine bn2_of h1 ?_
 unfold trsA
 dsimp only
 refine bn2_of h2 ?_
 cases b <;> exact ok_eq
noncomputable def fnTabR : List (Addr × List Fn) := [(220, [fn220]), (538, [fn538]), (700, [fn700])]
noncomputable def atTabR : List (Addr × List (Str × At)) := [(754, [(Zs "_StringIO__newline", .own), (Zs "_StringIO__buf", .own), (Zs "_StringIO__pos", .own), (Zs "_StringIO__check", .meth 538)])]
noncomputable def TR : Tp := ⟨globTab, fnTabR, atTabR, [], []⟩
noncomputable abbrev z_nl : Str := Zs "_StringIO__newline"
noncomputable abbrev z_buf : Str := Zs "_StringIO__buf"
noncomputable abbrev z_pos : Str := Zs "_StringIO__pos"
noncomputable abbrev z_self : Str := Zs "self"
noncomputable abbrev z_size : Str := Zs "size"
noncomputable abbrev z_start : Str := Zs "start"
noncomputable abbrev z_stop : Str := Zs "stop"
noncomputable def rdS (i : Nat) : Stmt := (nth fn700.body i).getD noStmt
noncomputable def rdC : Cx := ⟨3, fn700.fd.scope, []⟩
noncomputable def rd0 (l0 : List (Str × AV)) (nl b : Str) (p : Int) : St := [.ns l0, .dict [(z_nl, .str nl), (z_buf, .str b), (z_pos, .int p)], .inst 754 1]
theorem rd_body : fn700.body = [rdS 0, rdS 1, rdS 2, rdS 3, rdS 4, rdS 5, rdS 6, rdS 7, rdS 8] := by kernel_rfl!
section
variable (l0 : List (Str × AV)) (nl b : Str) (p N : Nat)
theorem rd_0 : (run TR 20).ex rdC (rdS 0) (rd0 l0 nl b p ++ [.ns [(z_self, .ref 2), (z_size, .int 1)]]) = some (.next, rd0 l0 nl b p ++ [.ns [(z_self, .ref 2), (z_size, .int 1)]], true) := by kernel_rfl!
theorem rd_1 : (run TR 20).ex rdC (rdS 1) (rd0 l0 nl b p ++ [.ns [(z_self, .ref 2), (z_size, .int 1)]]) = some (.next, rd0 l0 nl b p ++ [.ns [(z_self, .ref 2), (z_size, .int 1)], .junk], true) := by kernel_rfl!
theorem rd_2 : (run TR 20).ex rdC (rdS 2) (rd0 l0 nl b p ++ [.ns [(z_self, .ref 2), (z_size, .int 1)], .junk]) = some (.next, rd0 l0 nl b p ++ [.ns [(z_self, .ref 2), (z_size, .int 1)], .junk, .junk], true) := by kernel_rfl!
theorem rd_3 : (run TR 20).ex rdC (rdS 3) (rd0 l0 nl b p ++ [.ns [(z_self, .ref 2), (z_size, .int 1)], .junk, .junk]) = some (.next, rd0 l0 nl b p ++ [.ns [(z_self, .ref 2), (z_size, .int 1), (z_start, .int p)], .junk, .junk], true) := by kernel_rfl!
theorem rd_4 : (run TR 20).ex rdC (rdS 4) (rd0 l0 nl b p ++ [.ns [(z_self, .ref 2), (z_size, .int 1), (z_start, .int p)], .junk, .junk]) = some (.next, rd0 l0 nl b p ++ [.ns [(z_self, .ref 2), (z_size, .int 1), (z_start, .int p), (z_stop, .int (.ofNat (len b.cps.toList)))], .junk, .junk], ((small b && true) && true)) := by kernel_rfl!
noncomputable def ifT : Stmt -> Expr
 | .If t _ _ _ => t
 | _ => .Constant .none 0 ⟨0, 0, 0, 0⟩
noncomputable def ifA : Stmt -> List Stmt
 | .If _ a _ _ => a
 | _ => []
noncomputable def ifB : Stmt -> List Stmt
 | .If _ _ b _ => b
 | _ => []
noncomputable def ifP : Stmt -> Pos
 | .If _ _ _ p => p
 | _ => ⟨0, 0, 0, 0⟩
noncomputable def rdN (start stop : Int) : AO := .ns [(z_self, .ref 2), (z_size, .int 1), (z_start, .int start), (z_stop, .int stop)]
theorem rd_if5 : rdS 5 = .If (ifT (rdS 5)) (ifA (rdS 5)) (ifB (rdS 5)) (ifP (rdS 5)) := by kernel_rfl!
theorem rd_if6 : rdS 6 = .If (ifT (rdS 6)) (ifA (rdS 6)) (ifB (rdS 6)) (ifP (rdS 6)) := by kernel_rfl!
theorem rd_5t : (run TR 19).tr rdC (ifT (rdS 5)) (rd0 l0 nl b p ++ [rdN (.ofNat p) (.ofNat N), .junk, .junk]) = some (!Nat.blt p N, rd0 l0 nl b p ++ [rdN (.ofNat p) (.ofNat N), .junk, .junk], true) := by kernel_rfl!
theorem rd_5a : exsA (run TR 19) rdC (ifA (rdS 5)) (rd0 l0 nl b p ++ [rdN (.ofNat p) (.ofNat N), .junk, .junk]) = some (.ret (.str ⟨⟨[]⟩⟩), rd0 l0 nl b p ++ [rdN (.ofNat p) (.ofNat N), .junk, .junk], true) := by kernel_rfl!
theorem rd_5b : exsA (run TR 19) rdC (ifB (rdS 5)) (rd0 l0 nl b p ++ [rdN (.ofNat p) (.ofNat N), .junk, .junk]) = some (.next, rd0 l0 nl b p ++ [rdN (.ofNat p) (.ofNat N), .junk, .junk], true) := by kernel_rfl!
noncomputable def boE (i : Nat) : Expr -> Expr
 | .BoolOp _ es _ => (nth es i).getD (.Constant .none 0 ⟨0, 0, 0, 0⟩)
 | e => e
noncomputable def boP : Expr -> Pos
 | .BoolOp _ _ p => p
 | _ => ⟨0, 0, 0, 0⟩
theorem rd_bo : ifT (rdS 6) = .BoolOp .And [boE 0 (ifT (rdS 6)), boE 1 (ifT (rdS 6))] (boP (ifT (rdS 6))) := by kernel_rfl!
theorem rd_6t0 : (run TR 18).tr rdC (boE 0 (ifT (rdS 6))) (rd0 l0 nl b p ++ [rdN (.ofNat p) (.ofNat N), .junk, .junk]) = some (true, rd0 l0 nl b p ++ [rdN (.ofNat p) (.ofNat N), .junk, .junk], true) := by kernel_rfl!
theorem rd_6t1 : (run TR 18).tr rdC (boE 1 (ifT (rdS 6))) (rd0 l0 nl b p ++ [rdN (.ofNat p) (.ofNat N), .junk, .junk]) = some (Nat.blt (Nat.succ p) N, rd0 l0 nl b p ++ [rdN (.ofNat p) (.ofNat N), .junk, .junk], true) := by kernel_rfl!
theorem rd_6t : (run TR 19).tr rdC (ifT (rdS 6)) (rd0 l0 nl b p ++ [rdN (.ofNat p) (.ofNat N), .junk, .junk]) = some (Nat.blt (Nat.succ p) N, rd0 l0 nl b p ++ [rdN (.ofNat p) (.ofNat N), .junk, .junk], true) := by
 rw [rd_bo]
 exact tr_and (rd_6t0 l0 nl b p N) (rd_6t1 l0 nl b p N)
theorem rd_6a : exsA (run TR 19) rdC (ifA (rdS 6)) (rd0 l0 nl b p ++ [rdN (.ofNat p) (.ofNat N), .junk, .junk]) = some (.next, rd0 l0 nl b p ++ [rdN (.ofNat p) (.ofNat (Nat.succ p)), .junk, .junk], true) := by kernel_rfl!
theorem rd_6b : exsA (run TR 19) rdC (ifB (rdS 6)) (rd0 l0 nl b p ++ [rdN (.ofNat p) (.ofNat N), .junk, .junk]) = some (.next, rd0 l0 nl b p ++ [rdN (.ofNat p) (.ofNat N), .junk, .junk], true) := by kernel_rfl!
theorem rd_7 : (run TR 20).ex rdC (rdS 7) (rd0 l0 nl b p ++ [rdN (.ofNat p) (.ofNat N), .junk, .junk]) = some (.next, rd0 l0 nl b N ++ [rdN (.ofNat p) (.ofNat N), .junk, .junk], true) := by kernel_rfl!
theorem rd_8 : (run TR 20).ex rdC (rdS 8) (rd0 l0 nl b N ++ [rdN (.ofNat p) (.ofNat N), .junk, .junk]) = some (.ret (.str (cutStr p N b)), rd0 l0 nl b N ++ [rdN (.ofNat p) (.ofNat N), .junk, .junk], true && (((small b && true) && true))) := by kernel_rfl!
theorem rd_call (r : Rec) : callA TR r 700 [.ref 2, .int 1] [] (rd0 l0 nl b p) = bn2 (exsA r rdC fn700.body (rd0 l0 nl b p ++ [.ns [(z_self, .ref 2), (z_size, .int 1)]])) fun fl σ' => bnd (flV fl) fun v => ok v (setNth σ' 3 .junk) := by kernel_rfl!
theorem rd_ret (v : AV) (o : AO) : (bnd (flV (.ret v)) fun v => ok v (setNth (rd0 l0 nl b N ++ [o, .junk, .junk]) 3 .junk)) = some (v, rd0 l0 nl b N ++ [.junk, .junk, .junk], true) := by kernel_rfl!
theorem rd_wrap {r : Rec} {v : AV} {o : AO} (h : exsA r rdC fn700.body (rd0 l0 nl b p ++ [.ns [(z_self, .ref 2), (z_size, .int 1)]]) = some (.ret v, rd0 l0 nl b N ++ [o, .junk, .junk], true)) : callA TR r 700 [.ref 2, .int 1] [] (rd0 l0 nl b p) = some (v, rd0 l0 nl b N ++ [.junk, .junk, .junk], true) := by
 rw [rd_call]
 exact bn2_of h (rd_ret l0 nl b N v o)
theorem run_call (T : Tp) (n : Nat) : (run T (n + 1)).call = callA T (run T n) := rfl
variable {l0 nl b p N}
theorem rd_head {f : Fl} {σ2 : St} (sm : small b = true) (h : exsA (run TR 20) rdC [rdS 5, rdS 6, rdS 7, rdS 8] (rd0 l0 nl b p ++ [rdN (.ofNat p) (.ofNat (len b.cps.toList)), .junk, .junk]) = some (f, σ2, true)) :
 exsA (run TR 20) rdC fn700.body (rd0 l0 nl b p ++ [.ns [(z_self, .ref 2), (z_size, .int 1)]]) = some (f, σ2, true) := by
 rw [rd_body]
 refine exs_cons (rd_0 l0 nl b p) (exs_cons (rd_1 l0 nl b p) (exs_cons (rd_2 l0 nl b p) (exs_cons (rd_3 l0 nl b p) (exs_cons ((rd_4 l0 nl b p).trans ?_) h))))
 rw [sm]; rfl
theorem rd_end (sm : small b = true) (hp : p = len b.cps.toList) : (run TR 21).call 700 [.ref 2, .int 1] [] (rd0 l0 nl b p) = some (.str ⟨⟨[]⟩⟩, rd0 l0 nl b p ++ [.junk, .junk, .junk], true) := by
 rw [run_call]
 refine rd_wrap l0 nl b p p (o := rdN (.ofNat p) (.ofNat p)) (rd_head sm ?_)
 have : Nat.blt p p = false := by
  cases h : Nat.blt p p with
  | false => rfl
  | true => exact absurd (Nat.le_of_ble_eq_true h) (Nat.not_succ_le_self p)
 rw [rd_if5, <- hp]
 refine exs_ret (ex_if (rd_5t l0 nl b p p) ?_)
 rw [this]
 exact rd_5a l0 nl b p p
theorem rd_more (sm : small b = true) (hp : p < len b.cps.toList) : (run TR 21).call 700 [.ref 2, .int 1] [] (rd0 l0 nl b p) = some (.str (cutStr p (Nat.succ p) b), rd0 l0 nl b (Nat.succ p) ++ [.junk, .junk, .junk], true) := by
 rw [run_call]
 refine rd_wrap l0 nl b p (Nat.succ p) (o := rdN (.ofNat p) (.ofNat (Nat.succ p))) (rd_head sm ?_)
 have h1 : Nat.blt p (len b.cps.toList) = true := Nat.ble_eq_true_of_le hp
 rw [rd_if5]
 refine exs_cons (ex_if (rd_5t l0 nl b p _) (by rw [h1]; exact rd_5b l0 nl b p _)) ?_
 rw [rd_if6]
 refine exs_cons (σ₁ := rd0 l0 nl b p ++ [rdN (.ofNat p) (.ofNat (Nat.succ p)), .junk, .junk]) (ex_if (rd_6t l0 nl b p _) ?_) (exs_cons (rd_7 l0 nl b p _) (exs_ret ((rd_8 l0 nl b p _).trans (by rw [sm]; rfl))))
 cases h2 : Nat.blt (Nat.succ p) (len b.cps.toList) with
 | true => exact rd_6a l0 nl b p _
 | false =>
  have : len b.cps.toList = Nat.succ p := by
   have : ¬ (Nat.succ (Nat.succ p) <= len b.cps.toList) := fun z => by rw [show Nat.blt (Nat.succ p) (len b.cps.toList) = true from Nat.ble_eq_true_of_le z] at h2; cases h2
   lia
  rw [this]
  exact rd_6b l0 nl b p _
end
end
section
set_option maxRecDepth 100000
variable {K : Frag} {prog : Program} {w : World} {n : Nat} {r : Rec}
structure TSub (T' T : Tp) : Prop where
 gl : T'.glob = T.glob
 fn : ∀ f l, nlook f T'.fns = some l -> nlook f T.fns = some l
 at_ : ∀ C l', nlook C T'.ats = some l' -> ∃ l, nlook C T.ats = some l /\ ∀ x k, look x l' = some k -> look x l = some k
theorem TOk.sub {T' T : Tp} (h : TOk K T) (s : TSub T' T) : TOk K T' :=
 ⟨fun x v e => h.gl x v (s.gl ▸ e), fun f l fn e m => h.fn f l fn (s.fn f l e) m, fun C l' e => let ⟨l, e2, k⟩ := s.at_ C l' e; ⟨(h.at_ C l e2).1, fun x k' e3 => (h.at_ C l e2).2 x k' (k x k' e3)⟩⟩
theorem sub_TR : TSub TR TT := by
 refine ⟨rfl, fun f l e => ?_, fun C l' e => ?_⟩
 · have m := nlook_mem e
   simp only [TR, fnTabR, List.mem_cons, List.not_mem_nil, or_false, Prod.mk.injEq] at m
   rcases m with ⟨rfl, rfl⟩ | ⟨rfl, rfl⟩ | ⟨rfl, rfl⟩ <;> kernel_rfl!
 · have m := nlook_mem e
   simp only [TR, atTabR, List.mem_cons, List.not_mem_nil, or_false, Prod.mk.injEq] at m
   obtain ⟨rfl, rfl⟩ := m
   refine ⟨_, (by kernel_rfl! : nlook 754 TT.ats = some [(Zs "_StringIO__newline", .own), (Zs "_StringIO__buf", .own), (Zs "_StringIO__pos", .own), (Zs "_StringIO__check", .meth 538), (Zs "_StringIO__translated", .meth 531), (Zs "read", .meth 700)]), fun x k e => ?_⟩
   have m := look_mem e
   simp only [List.mem_cons, List.not_mem_nil, or_false, Prod.mk.injEq] at m
   rcases m with ⟨rfl, rfl⟩ | ⟨rfl, rfl⟩ | ⟨rfl, rfl⟩ | ⟨rfl, rfl⟩ <;> kernel_rfl!
noncomputable def FuOk (K : Frag) (prog : Program) (w : World) : Prop := KpOk K prog w /\ ∀ l x b, nlook 206 srchTab = some l -> look x l = some b -> FSrOk K prog w x b
theorem notBig_TR : ¬ Big TR := by
 rintro (⟨f, e⟩ | e)
 · rw [show atOf TR 754 s_read = none by kernel_rfl!] at e; cases e
 · exact e (by kernel_rfl!)
theorem hyp_TR (hT : TOk K TT) (L : Lo K) (fu : FuOk K prog w) : Hyp3 K prog w TR :=
 ⟨⟨fun ⟨f, e⟩ => absurd (Or.inl ⟨f, e⟩) notBig_TR, fun a l e => (by cases e), fun a l x b e => (by cases e)⟩, ⟨fun C f e => (by cases e), fun C f e => (by cases e)⟩, sort_ok L, deq_ok L, fun f l fn e m => keep_fn ((hT.sub sub_TR).fn f l fn e m), ⟨fu.1, fun l x b e => (by cases e)⟩⟩
theorem snd_TR (hT : TOk K TT) (L : Lo K) (LF : LexFacts K) (fu : FuOk K prog w) (n : Nat) : Snd K prog w (n + 10) (run TR n) :=
 run_ok (hT.sub sub_TR) L (hyp_TR hT L fu) (fun z => absurd (Or.inr z) notBig_TR) (fun ι S => lex_ok (hT.sub sub_TR) L LF S) (Nat.le_refl 10) (fun z => absurd z notBig_TR) n
theorem setNth_self {α : Type} : ∀ {l : List α} {i : Nat} {x : α}, nth l i = some x -> setNth l i x = l
 | _ :: _, 0, _, h => by cases h; rfl
 | a :: r, i + 1, x, h => congrArg (a :: ·) (setNth_self (l := r) h)
theorem nth3 {α β : Type} {P : α -> β -> Prop} {x y z : α} {x' y' z' : β} (p : P x x') (q : P y y') (r : P z z') {k : Nat} {a : α} {o : β} (h1 : nth [x, y, z] k = some a) (h2 : nth [x', y', z'] k = some o) : P a o :=
 match k, h1, h2 with
 | 0, h1, h2 => some_el (show some x = some a from h1) (some_el (show some x' = some o from h2) p)
 | 1, h1, h2 => some_el (show some y = some a from h1) (some_el (show some y' = some o from h2) q)
 | 2, h1, h2 => some_el (show some z = some a from h1) (some_el (show some z' = some o from h2) r)
 | _ + 3, h1, _ => none_el (show (none : Option α) = some a from h1)
theorem mem3 {α : Type} {x y z a : α} {C : Prop} (h : a ∈ [x, y, z]) (p : a = x -> C) (q : a = y -> C) (r : a = z -> C) : C :=
 (List.mem_cons.mp h).elim p fun h => (List.mem_cons.mp h).elim q fun h => r (List.mem_singleton.mp h)
noncomputable def NsQ (ρ : Rho) (m : Str -> Option Value) (l : List (Str × AV)) : Prop := ∀ x v, look x l = some v -> v = .unk \/ ∃ u, m x = some u /\ VR ρ v u
theorem raw_unk {ρ : Rho} {u : AV} {z : Value} (V : VR ρ u z) (h : rawV ρ.l u = .unk) : u = .unk := by
 cases u with
 | ref k =>
  obtain ⟨c, hc, _⟩ := V
  rw [show rawV ρ.l (.ref k) = .raw (.ref c) from by unfold rawV; dsimp only; rw [hc]] at h
  exact nomatch h
 | _ => exact h
theorem ns_small {ρ ρ' : Rho} {m : Str -> Option Value} {l : List (Str × AV)} (f : FSub ρ.F ρ'.F) (hf : NsQ ρ m l) : NsQ ρ' m (rawN ρ.l l) := fun x u hx => by
 rw [look_rawN] at hx
 cases hl : look x l with
 | none => rw [hl] at hx; exact none_el hx
 | some y =>
  rw [hl] at hx
  refine some_el (show some (rawV ρ.l y) = some u from hx) ?_
  exact (hf x y hl).elim (fun e => .inl (by rw [e]; rfl)) fun ⟨z, h1, h2⟩ => .inr ⟨z, h1, rawV_ok f h2⟩
theorem ns_back {ρ ρ' : Rho} {F X : Fz} {fs : List Nat} {m m' : Str -> Option Value} {l : List (Str × AV)} (f : FSub ρ'.F F) (hf : NsQ ρ m l) (hf' : NsQ ρ' m' (rawN ρ.l l)) : NsQ ⟨ρ.l, F, X, fs⟩ m' l := fun x u hx =>
 (hf x u hx).elim .inl fun ⟨z, h1, h2⟩ => (hf' x (rawV ρ.l u) (by rw [look_rawN, hx]; rfl)).elim (fun e => .inl (raw_unk h2 e)) fun ⟨z', h3, h4⟩ =>
  .inr ⟨z', h3, rawV_back (ρ := ⟨ρ.l, F, X, fs⟩) f (fun hu e => hu (raw_unk h2 e)) h4⟩
structure Sio (σ : St) (ρ : Rho) (i0 d i : Nat) (L0 da a : Addr) (l0 : List (Str × AV)) (rest : List Nat) : Prop where
 h0 : nth σ i0 = some (.ns l0)
 hd : nth σ d = some (.sdict rest)
 hi : nth σ i = some (.inst 754 d)
 a0 : nth ρ.l i0 = some L0
 ad : nth ρ.l d = some da
 ai : nth ρ.l i = some a
section
variable {σ : St} {ρ : Rho} {i0 d i : Nat} {L0 da a : Addr} {l0 : List (Str × AV)} {rest : List Nat} {h : Heap}
theorem Sio.nd (S : Sio σ ρ i0 d i L0 da a l0 rest) (R : Rl K σ ρ h) : [L0, da, a].Nodup := by
 have n1 : L0 ≠ da := fun z => by
  have := R.nd i0 d da _ _ (z ▸ S.a0) S.ad S.h0 S.hd rfl rfl
  exact nomatch (this ▸ S.h0).symm.trans S.hd
 have n2 : L0 ≠ a := fun z => by
  have := R.nd i0 i a _ _ (z ▸ S.a0) S.ai S.h0 S.hi rfl rfl
  exact nomatch (this ▸ S.h0).symm.trans S.hi
 have n3 : da ≠ a := fun z => by
  have := R.nd d i a _ _ (z ▸ S.ad) S.ai S.hd S.hi rfl rfl
  exact nomatch (this ▸ S.hd).symm.trans S.hi
 exact .cons (fun b m e => (List.mem_cons.mp m).elim (fun z => n1 (e.trans z)) fun z => n2 (e.trans (List.mem_singleton.mp z))) (.cons (fun b m e => n3 (e.trans (List.mem_singleton.mp m))) (.cons nofun .nil))
theorem Sio.small (S : Sio σ ρ i0 d i L0 da a l0 rest) (R : Rl K σ ρ h) {nl b : Str} {p : Nat} {t1 t2 t3 t4 t5 t6 : Tok} {k1 k2 k3 : Int} {m : Nat} (g : h.get? da = some (dictOf [⟨k1, .str (Zs "_StringIO__newline") t1, .str nl t2⟩, ⟨k2, .str (Zs "_StringIO__buf") t3, .str b t4⟩, ⟨k3, .str (Zs "_StringIO__pos") t5, .int p t6⟩] m)) (sy : da ≠ sysModules) :
 Rl K (rd0 (rawN ρ.l l0) nl b p) ⟨[L0, da, a], ρ.F, Lk σ ρ [L0, da, a] h, [0]⟩ h := by
 obtain ⟨m, hn, hf⟩ := (R.ob i0 L0 _ S.a0 S.h0).out
 obtain ⟨_, _, f⟩ := (R.ob i a _ S.ai S.hi).out
 obtain rfl := Option.some.inj (S.ad.symm.trans ‹_›)
 refine R.small rfl (fun j k c e1 e2 => nodup_nth (S.nd R) e1 e2) (fun k c o e1 e2 => nth3 (P := fun c o => (∃ j p, nth ρ.l j = some c /\ nth σ j = some p /\ shut p = false) /\ OR ⟨[L0, da, a], ρ.F, Lk σ ρ [L0, da, a] h, [0]⟩ h c o) ?_ ?_ ?_ e1 e2) fun j hj => ⟨rawN ρ.l l0, (List.mem_singleton.mp hj).symm ▸ rfl⟩
 · exact ⟨⟨i0, _, S.a0, S.h0, rfl⟩, .ns hn (ns_small (FSub.refl _) hf)⟩
 · exact ⟨⟨d, _, S.ad, S.hd, rfl⟩, .dict g (.cons rfl ⟨_, rfl⟩ (.cons rfl ⟨_, rfl⟩ (.cons rfl ⟨_, rfl⟩ .nil))) sy⟩
 · exact ⟨⟨i, _, S.ai, S.hi, rfl⟩, .inst rfl f⟩
theorem Sio.back (S : Sio σ ρ i0 d i L0 da a l0 rest) (R : Rl K σ ρ h) {nl b : Str} {p' : Nat} {rest' : List Nat} {ρ' : Rho} {h' : Heap} (R' : Rl K (rd0 (rawN ρ.l l0) nl b p' ++ [.junk, .junk, .junk]) ρ' h') (X' : Ex ⟨[L0, da, a], ρ.F, Lk σ ρ [L0, da, a] h, [0]⟩ h ρ' h') (sy : da ≠ sysModules) (hd' : b.cps.toList.drop p' = rest') (hp' : p' <= b.cps.size) (hz : b.cps.size <= 100000) :
 Rl K (setNth σ d (.sdict rest')) ⟨ρ.l, ρ'.F, ρ.X, ρ.fs⟩ h' /\ Ex ρ h ⟨ρ.l, ρ'.F, ρ.X, ρ.fs⟩ h' := by
 have l0' : nth ρ'.l 0 = some L0 := nth_ex X' rfl
 have l1' : nth ρ'.l 1 = some da := nth_ex X' rfl
 have l2' : nth ρ'.l 2 = some a := nth_ex X' rfl
 obtain ⟨_, _, hf⟩ := (R.ob i0 L0 _ S.a0 S.h0).out
 obtain ⟨_, hn', hf'⟩ := (R'.ob 0 L0 _ l0' rfl).out
 obtain ⟨es, m, g', D', _⟩ := (R'.ob 1 da _ l1' rfl).out
 obtain ⟨_, e2, f2⟩ := (R'.ob 2 a _ l2' rfl).out
 obtain rfl := Option.some.inj (l1'.symm.trans e2)
 obtain ⟨⟨i1, k1', w1⟩, ⟨i2, k2', w2⟩, ⟨i3, k3', w3⟩, s1, s2, s3, rfl, q1, q2, q3, ⟨u1, v1⟩, ⟨u2, v2⟩, ⟨u3, v3⟩⟩ := D'.three
 dsimp only at q1 q2 q3 v1 v2 v3
 rw [q1, q2, q3, v1, v2, v3] at g'
 refine R.back R' X' (fun c hc => mem3 hc (fun e => e ▸ nth_mem S.a0) (fun e => e ▸ nth_mem S.ad) fun e => e ▸ nth_mem S.ai) (setNth_length _ _ _) (fun j c o hj ho => ?_) (fr_set R.fr fun mm => absurd mm (R.nofs S.hd nofun))
 rcases nth_setNth ho with ⟨rfl, rfl⟩ | ⟨ne, ho⟩
 · obtain rfl := Option.some.inj (S.ad.symm.trans hj)
   exact .inr ⟨_, S.hd, rfl, .sdict g' ⟨nl, b, p', s1, u1, s2, u2, s3, u3, i1, i2, i3, rfl, hd', hp', hz⟩ sy, (R'.fz 1 da _ l1' rfl rfl).1⟩
 by_cases hji : j = i
 · subst hji
   obtain rfl := Option.some.inj (S.ai.symm.trans hj)
   obtain rfl := Option.some.inj (S.hi.symm.trans ho)
   exact .inr ⟨_, S.hi, rfl, .inst S.ad f2, (R'.fz 2 a _ l2' rfl rfl).1⟩
 by_cases hj0 : j = i0
 · subst hj0
   obtain rfl := Option.some.inj (S.a0.symm.trans hj)
   obtain rfl := Option.some.inj (S.h0.symm.trans ho)
   exact .inr ⟨_, S.h0, rfl, .ns hn' (ns_back (FSub.refl _) hf hf'), (R'.fz 0 L0 _ l0' rfl rfl).1⟩
 refine .inl ⟨ho, ?_⟩
 cases hs : shut o with
 | true => exact .inl rfl
 | false =>
  exact .inr fun hc => mem3 hc (fun e => hj0 (R.nd _ _ _ _ _ (e ▸ hj) S.a0 ho S.h0 hs rfl)) (fun e => ne (R.nd _ _ _ _ _ (e ▸ hj) S.ad ho S.hd hs rfl).symm) fun e => hji (R.nd _ _ _ _ _ (e ▸ hj) S.ai ho S.hi hs rfl)
end
theorem cut1 {p c : Nat} {b : Str} {r : List Nat} (hb : b.cps.toList.drop p = c :: r) : cutStr p (Nat.succ p) b = ⟨⟨[c]⟩⟩ := by
 unfold cutStr
 rw [takeN_eq, dropN_eq, hb, Nat.succ_sub (Nat.le_refl p), Nat.sub_self]
 rfl
theorem rd_ok (hT : TOk K TT) (L : Lo K) (LF : LexFacts K) (fu : FuOk K prog w) : RdOk K prog w := by
 intro σ σ' ρ i d v a t A s h R ha fa hfs hr Q q
 obtain ⟨i0, hi0⟩ := hfs
 obtain ⟨l0, h0⟩ := R.fr i0 hi0
 obtain ⟨L0, hL0⟩ := nth_lt (l := ρ.l) (i := i0) (by rw [R.len]; exact nth_len h0)
 refine gd_el h fun ι h => bnd_el h fun p0 hi h => bnd_el h fun rest hd h => gd_el h fun hC h => and_el hC fun hC hdd => ?_
 have hi := inO_inv hi
 rw [Nat.eq_of_beq_eq_true hC, Nat.eq_of_beq_eq_true hdd] at hi
 have hd := sdO_inv hd
 obtain ⟨da, e, f⟩ := (R.ob i a _ ha hi).out
 obtain ⟨es, m, g, ⟨nl, b, p, t1, t2, t3, t4, t5, t6, k1, k2, k3, rfl, hb, hp, hz⟩, sy⟩ := (R.ob d da _ e hd).out
 have S : Sio σ ρ i0 d i L0 da a l0 rest := ⟨h0, hd, hi, hL0, e, ha⟩
 have fc : FrA A ⟨[L0, da, a], ρ.F, Lk σ ρ [L0, da, a] s.heap, [0]⟩ :=
  let ⟨l, hl, k⟩ := fa
  ⟨l, hl, fun env he => ⟨(k env he).1, .inl (.head _)⟩⟩
 have hl : len b.cps.toList = b.cps.size := (len_eq _).trans Array.length_toList
 have sm : small b = true := Nat.ble_eq_true_of_le (hl ▸ hz)
 have main : ∀ (x : Str) (p' : Nat) (rest' : List Nat), (run TR 21).call 700 [.ref 2, .int 1] [] (rd0 (rawN ρ.l l0) nl b p) = some (.str x, rd0 (rawN ρ.l l0) nl b p' ++ [.junk, .junk, .junk], true) -> b.cps.toList.drop p' = rest' -> p' <= b.cps.size -> v = .str x -> σ' = setNth σ d (.sdict rest') -> codeAny (model prog w) A (.call (.ref 700) ⟨[.ref a, .int 1 t], []⟩) Q s := by
  intro x p' rest' hrun hd' hp' hv hs
  subst hv; subst hs
  refine (snd_TR hT L LF fu 21).call (us := [.ref a, .int 1 t]) (uks := []) hrun (S.small R g sy) (.cons ⟨a, rfl, rfl⟩ (.cons ⟨t, rfl⟩ .nil)) .nil fc (hr.le (by decide)) _ fun ρ' s' u R' X' G V => ?_
  obtain ⟨y, rfl, V⟩ := V
  obtain ⟨R2, X2⟩ := S.back R R' X' sy hd' hp' hz
  exact q _ _ _ R2 X2 G ⟨y, rfl, V⟩
 cases rest with
 | nil =>
  obtain ⟨rfl, rfl⟩ := ok_some (show ok (.str ⟨⟨[]⟩⟩) σ = some (v, σ', true) from h)
  exact main _ p [] (rd_end sm (Nat.le_antisymm (hl ▸ hp) (len_eq _ ▸ List.drop_eq_nil_iff.mp hb))) hb hp rfl (setNth_self hd).symm
 | cons c rest' =>
  obtain ⟨rfl, rfl⟩ := ok_some (show ok (.str ⟨⟨[c]⟩⟩) (setNth σ d (.sdict rest')) = some (v, σ', true) from h)
  have hlt : p < len b.cps.toList := by
   rw [len_eq]
   rcases Nat.lt_or_ge p b.cps.toList.length with z | z
   · exact z
   · rw [List.drop_of_length_le z] at hb; exact nomatch hb
  refine main _ (Nat.succ p) rest' (rd_more sm hlt) ?_ (hl ▸ hlt) (by rw [cut1 hb]) rfl
  rw [show Nat.succ p = p + 1 from rfl, <- List.drop_drop, hb]
  rfl
end
section
open PySem.Builtin.Re
set_option maxRecDepth 100000
variable {K : Frag} {prog : Program} {w : World} {n : Nat} {r : Rec}
theorem srOut_inv {code : Array Nat} {x : Str} {b : Bool} (h : srOut code x = some (some (bOut b))) : ∃ m, drv 20 (Sre.forSearch code x.cps 0 0 x.cps.size false) = some m /\ m.outcome = some (bOut b) := by
 unfold srOut at h
 obtain ⟨m, h1, h2⟩ := Option.map_eq_some_iff.mp h
 exact ⟨m, h1, h2⟩
structure Pats (K : Frag) : Prop where
 p54 : PatAt K 54 cd54
 p59 : PatAt K 59 cd59
 p206 : PatAt K 206 cd206
 plain : ∀ a, a = 54 \/ a = 59 \/ a = 206 -> ∃ o, K.lookup a = some o /\ o.cls = .type "re.Pattern" /\ o.dict = none
 bm : K.lookup 909 = some { cls := .type "builtin_function_or_method", data := .fields #[.builtin "re.Pattern.search", .ref 206] }
noncomputable def outIs : Bool -> Option (Option Sre.Outcome) -> Bool
 | false, some (some .failed) => true
 | true, some (some .matched) => true
 | _, _ => false
theorem outIs_ok {b : Bool} {o : Option (Option Sre.Outcome)} (h : outIs b o = true) : o = some (some (bOut b)) := by
 unfold outIs at h
 split at h <;> first | rfl | cases h
noncomputable def okRows (code : Array Nat) : List (Str × Bool) -> Bool
 | [] => true
 | p :: l => Nat.ble p.1.cps.size 1000 && (outIs p.2 (srOut code p.1) && okRows code l)
theorem okRows_ok {code : Array Nat} {x : Str} {b : Bool} : ∀ {l : List (Str × Bool)}, okRows code l = true -> (x, b) ∈ l -> x.cps.size <= 1000 /\ srOut code x = some (some (bOut b))
 | p :: l, h, m => by
  unfold okRows at h
  rw [Bool.and_eq_true, Bool.and_eq_true] at h
  rcases List.mem_cons.mp m with rfl | m
  · exact ⟨Nat.le_of_ble_eq_true h.1, outIs_ok h.2.1⟩
  · exact okRows_ok h.2.2 m
noncomputable def codeAt (a : Nat) : Option (Array Nat) := match Nat.beq a 54, Nat.beq a 59, Nat.beq a 206 with
 | true, _, _ => some cd54
 | _, true, _ => some cd59
 | _, _, true => some cd206
 | _, _, _ => none
noncomputable def okTab : List (Addr × List (Str × Bool)) -> Bool
 | [] => true
 | p :: t => (match codeAt p.1 with | some c => okRows c p.2 | none => false) && okTab t
set_option tactic.hygienic true in
theorem okTab_ok {a : Nat} {l : List (Str × Bool)} : ∀ {t : List (Addr × List (Str × Bool))}, okTab t = true -> (a, l) ∈ t -> ∃ c, codeAt a = some c /\ okRows c l = true
 | p :: t, h, m => by
  unfold okTab at h
  rw [Bool.and_eq_true] at h
  rcases List.mem_cons.mp m with rfl | m
  · have h := h.1
    dsimp only at h
    split at h
    · rename_i c e; exact ⟨c, e, h⟩
    · cases h
  · exact okTab_ok h.2 m
theorem tab_chk : okTab srchTab = true := by kernel_rfl!
set_option tactic.hygienic true in
theorem codeAt_pat (P : Pats K) {a : Nat} {c : Array Nat} (h : codeAt a = some c) : PatAt K a c := by
 unfold codeAt at h
 split at h
 · rename_i e; cases h; rw [Nat.eq_of_beq_eq_true e]; exact P.p54
 · rename_i e _; cases h; rw [Nat.eq_of_beq_eq_true e]; exact P.p59
 · rename_i e _ _; cases h; rw [Nat.eq_of_beq_eq_true e]; exact P.p206
 · cases h
theorem tab_small (P : Pats K) : ∀ a l x b, nlook a srchTab = some l -> look x l = some b -> x.cps.size <= 1000 /\ ∃ c, PatAt K a c /\ srOut c x = some (some (bOut b)) := by
 intro a l x b e f
 obtain ⟨c, h1, h2⟩ := okTab_ok tab_chk (nlook_mem e)
 obtain ⟨h3, h4⟩ := okRows_ok h2 (look_mem f)
 exact ⟨h3, c, codeAt_pat P h1, h4⟩
theorem srs_ok (P : Pats K) : ∀ a l x b, nlook a srchTab = some l -> look x l = some b -> SrOk K prog w a x b := by
 intro a l x b e f
 obtain ⟨hx, c, hp, h⟩ := tab_small P a l x b e f
 obtain ⟨m, h1, h2⟩ := srOut_inv h
 exact sr_ok hp h1 (by decide) hx h2
set_option tactic.hygienic true in
theorem pats_ok (P : Pats K) : ∀ a l, nlook a srchTab = some l -> ∃ o, K.lookup a = some o /\ o.cls = .type "re.Pattern" /\ o.dict = none := by
 intro a l e
 obtain ⟨c, h1, _⟩ := okTab_ok tab_chk (nlook_mem e)
 refine P.plain a ?_
 unfold codeAt at h1
 split at h1
 · rename_i e; exact .inl (Nat.eq_of_beq_eq_true e)
 · rename_i e _; exact .inr (.inl (Nat.eq_of_beq_eq_true e))
 · rename_i e _ _; exact .inr (.inr (Nat.eq_of_beq_eq_true e))
 · cases h1
theorem sub_pat_mod : isSubtype (.type "re.Pattern") (.type "module") = pure false := by rw [isSubtype_type]; kernel_rfl
theorem plain_search : plainId "re.Pattern.search" = true := by decide +kernel
theorem bound_check {A : Around} {E : Value -> Shared -> Prop} {s : Shared} {x : Str} {t : Tok} {fs : Array Value} {sl : Array (Option Value)} {od : Option Addr} {Q : Unit -> Shared -> Prop} (gp : s.heap.get? 206 = some ⟨.type "re.Pattern", od, .fields fs, sl⟩) (q : Q () s) : wpAny (model prog w) A (checkBoundCall "re.Pattern.search" ⟨[.ref 206, .str x t], []⟩) Q E s := by
 have T1 : Looks (model prog w) s.heap (typeOf (.ref 206)) (.type "re.Pattern") := (Looks.ld (part := none) gp).andThen .now
 have hs : ∃ sig, Manifest.signature? "re.Pattern.search" = some sig /\ Bind.checkArgs "re.Pattern.search" { sig with full := "Pattern.search" } ⟨[.ref 206, .str x t], []⟩ = pure () := by
  refine ⟨(Manifest.signature? "re.Pattern.search").get (by decide +kernel), by simp, ?_⟩
  kernel_rfl!
 obtain ⟨sig, h1, h2⟩ := hs
 unfold checkBoundCall
 rw [h1]
 dsimp only
 rw [show builtinKind "re.Pattern.search" = some .method by decide +kernel]
 dsimp only
 rw [if_neg (by decide)]
 unfold isInstance
 refine wpAny_bind (wpAny_bind (T1.here ?_))
 rw [sub_pat_mod]
 refine wpAny_pure ?_
 rw [if_neg (by decide +kernel)]
 refine wpAny_bind (ks_wpAny_isType_inst gp (by rintro c ⟨⟩) ?_)
 rw [if_neg (by decide)]
 refine wpAny_bind (T1.here ?_)
 dsimp only
 rw [show (s!"{Bind.lastOf "re.Pattern"}.{Bind.lastOf "re.Pattern.search"}" : String) = "Pattern.search" by decide +kernel, h2]
 exact wpAny_pure q
theorem fsr_ok (P : Pats K) {l : List (Str × Bool)} {x : Str} {b : Bool} (e : nlook 206 srchTab = some l) (f : look x l = some b) : FSrOk K prog w x b := by
 intro A E s t Q X q
 obtain ⟨hx, c, hp, h⟩ := tab_small P 206 l x b e f
 obtain ⟨m, h1, h2⟩ := srOut_inv h
 obtain ⟨o, fs, c', o2, items, n, g1, g2, g3, _⟩ := id hp.ex
 have gp := X _ _ g1
 have gb := X _ _ P.bm
 obtain ⟨oc, od, odt, osl⟩ := o
 dsimp only at g2 g3
 subst g2; subst g3
 refine wpAny_call (codeAny_of_tree ?_)
 show wpAny _ A.in1 (callAny (.ref 909) _) _ _ s
 unfold callAny
 refine wpAny_bind (wpAny_load gb ?_)
 dsimp only
 rw [if_pos (by decide)]
 show wpAny _ _ (if ((Value.type "builtin_function_or_method") != Value.type "method") = true then _ else _) _ _ _
 rw [if_pos (by decide)]
 refine wpAny_bind (bound_check gp ?_)
 refine wpAny_pure ⟨plainId_quiet plain_search _, codeAny_builtin entry_search ?_⟩
 rw [Around.under_plainId plain_search _]
 refine wpAny_mono (sr_body hp h1 (by decide) hx h2 X q) (fun fin s' h' => ?_) fun ι ι h' => h'
 obtain ⟨v, rfl, hv⟩ := h'
 exact hv
theorem fu_ok (P : Pats K) (hk : KpOk K prog w) : FuOk K prog w := ⟨hk, fun l x b e f => fsr_ok P e f⟩
end
section
open Builtin
set_option maxRecDepth 100000
variable {K : Frag} {prog : Program} {w : World} {n : Nat} {r : Rec}
noncomputable abbrev q_cls : Str := Zs "cls"
noncomputable abbrev q_new : Str := Zs "__new__"
noncomputable def b247 : List Stmt := [.If (.BoolOp .And [.Compare (.Name q_cls ⟨130, 11, 130, 14⟩) [.IsNot] [.Name (Zs "BytesIO") ⟨130, 22, 130, 29⟩] ⟨130, 11, 130, 29⟩, .Compare (.Name q_cls ⟨130, 34, 130, 37⟩) [.IsNot] [.Name (Zs "StringIO") ⟨130, 45, 130, 53⟩] ⟨130, 34, 130, 53⟩] ⟨130, 11, 130, 53⟩)
 [.Expr (.Call (.Name (Zs "_wall") ⟨131, 12, 131, 17⟩) [.Constant (.int 5) 0 ⟨131, 18, 131, 19⟩] [] ⟨131, 12, 131, 20⟩) ⟨131, 12, 131, 20⟩] [] ⟨130, 8, 131, 20⟩,
 .Return (some (.Call (.Attribute (.Name (Zs "object") ⟨132, 15, 132, 21⟩) q_new ⟨132, 15, 132, 29⟩) [.Name q_cls ⟨132, 30, 132, 33⟩] [] ⟨132, 15, 132, 34⟩)) ⟨132, 8, 132, 34⟩]
noncomputable def sc247 : Scope := ⟨.function, [(q_cls, .local), (Zs "args", .local), (Zs "kwargs", .local), (Zs "BytesIO", .globalImplicit), (Zs "StringIO", .globalImplicit), (Zs "_wall", .globalImplicit), (Zs "object", .globalImplicit)], false, false, []⟩
noncomputable def fd247 : FuncData := mkFd (stMe 16 1) (Zs "IOBase.__new__") .none 246 (Zs "io") 648
theorem body247 : fd247.body = .stmts b247 := by kernel_rfl!
theorem scope247 : fd247.scope = sc247 := by kernel_rfl!
theorem glob247 : fd247.globals = mainGlobals := by kernel_rfl!
theorem bltin247 : fd247.builtins = builtinsNs := by kernel_rfl!
structure SioK (K : Frag) (S : Setting) : Prop where
 fn : ∃ oc od sl, K.lookup 247 = some ⟨oc, od, .func fd247, sl⟩
 code : codeIn K fd247.code fd247.qualname = true
 cls : ∃ oc od cd sl, K.lookup 754 = some ⟨oc, od, .cls cd, sl⟩ /\ cd.abstract = false /\ cd.hasDel = false
 byt : ∃ b, nsIn K mainGlobals (Zs "BytesIO") = some (some (.ref b)) /\ b ≠ 754 /\ ∃ od cd sl, K.lookup b = some ⟨.type "type", od, .cls cd, sl⟩
 str : nsIn K mainGlobals (Zs "StringIO") = some (some (.ref 754))
 obj : nsIn K mainGlobals (Zs "object") = some none /\ bootBuiltins (Zs "object") = some (.type "object")
 c1 : ∀ v, peek K S (callAny (.ref 754) ⟨[v], []⟩) = some (.again (.call (.builtin "type.__call__") ⟨[.ref 754, v], []⟩))
 c2 : ∀ v, peek K S (checkBuiltinCall "type.__call__" ⟨[.ref 754, v], []⟩) = some ()
 mro : ∃ m, peek K S (mroOf (.ref 754)) = some m /\ m.isEmpty = false
 mb : peek K S (Bind.madeBy (.ref 754)) = some none
 rd : readsIn K 754 (.type "type") = true
 fc : findCls K (.ref 754) (.type "type") "__new__" = some (.get (.builtin "staticmethod.__get__") (.ref 251) .none (.ref 754))
 rc : recIn K 251 "staticmethod" = some [.ref 247]
 n1 : peek K S (checkBuiltinCall "object.__new__" ⟨[.ref 754], []⟩) = some ()
 n2 : peek K S (isType (.ref 754)) = some true
 n3 : peek K S (Bind.madeHere "object.__new__" (.ref 754)) = some ()
 sub : peek K S (isSubtype (.ref 754) (.ref 754)) = some true
 ini : findIn K (.ref 754) "__init__" = some (some (.ref 524))
 fun_ : typeIn K (.ref 524) = some (.type "function")
 keep : keepIn K (.ref 247) = true
 nm : Zs "object" ≠ ("__name__" : Str)
section
variable {A : Around} {E : Value -> Shared -> Prop} {s : Shared} {R : Result -> Shared -> Prop}
theorem code_peek {f : Value} {args : Args} {c : Code} (X : K.In s.heap) (e : peek K ⟨prog, w.params⟩ (callAny f args) = some (.again c)) (hq : c.quiet = true) (h : codeAny (model prog w) A c R s) : codeAny (model prog w) A (.call f args) R s := by
 refine codeAny_of_tree ?_
 show wpAny _ _ (callAny f args) _ _ _
 exact (Looks.of_peek X e).here (show c.quiet = true /\ _ from ⟨hq, h⟩)
theorem new_sio (X : K.In s.heap) (F : SioK K ⟨prog, w.params⟩) (hq : R (.ok (.ret (.ref (s.heap.objs.size + 1)))) { s with heap := (s.heap.push emptyDict).push (instObj 754 s.heap.objs.size) }) :
 codeAny (model prog w) A (.call (.builtin "object.__new__") ⟨[.ref 754], []⟩) R s := by
 have F0 := PySem.F.objNew
 obtain ⟨oc, od, cd, sl, hC, e1, e2⟩ := F.cls
 have hC := X _ _ hC
 refine codeAny_call_builtin_at (Code.quiet_builtin _ F0.quiet) F0.entry ((Looks.of_peek X F.n1).here ?_)
 unfold Builtin.«object.__new__»
 dsimp only
 refine wpAny_bind ((Looks.of_peek X F.n2).here ?_)
 rw [if_neg (by decide)]
 refine wpAny_bind ((Looks.of_peek X F.n3).here ?_)
 rw [if_neg (by decide)]
 obtain ⟨h, g, d, t, os⟩ := s
 dsimp only at hC hq X
 refine wpAny_bind (wpAny_bind (wpAny_loadPart hC (wpAny_pure ?_)))
 rw [e1, if_neg (by decide)]
 show wpAny _ _ ((alloc emptyDict >>= fun x => pure (some x)) >>= _) _ _ _
 refine wpAny_bind (wpAny_bind (wpAny_alloc (wpAny_pure (wpAny_bind ?_))))
 show wpAny _ _ (newObjAsIs _ _ _) _ _ _
 unfold newObjAsIs classHasDel
 refine wpAny_bind (wpAny_alloc (wpAny_bind (wpAny_bind (wpAny_load (Heap.get?_push_of_some _ (Heap.get?_push_of_some _ hC)) (wpAny_pure ?_)))))
 dsimp only
 rw [e2]
 refine wpAny_pure (wpAny_pure ?_)
 show R _ _
 rw [Heap.size_push]
 exact hq
theorem meth_typeX {T : String} {name : Str} {v : Value} {pl : Sem Bool} {Q : Value × List Value -> Shared -> Prop} (X : K.In s.heap) (ht : typeOf (.type T) = pure (.type "type")) (hs : Manifest.isStub T = false)
 (e : findCls K (.type T) (.type "type") name = some (.val v)) (hh : handedIn v = true) (h : Q (v, []) { s with toks := s.toks + 1 }) : wpAny (model prog w) A (getMethod (.type T) name pl) Q E s := by
 have hstub : opaqueClassAbove (.type T) = pure none := by unfold opaqueClassAbove; dsimp only; rw [hs]; rfl
 have L0 : Looks (model prog w) s.heap (typeOf (.type T)) (.type "type") := Looks.of_pure ht
 have hg : findIn K (.type "type") "__getattribute__" = some (some (.builtin "type.__getattribute__")) := type_tga
 unfold getMethod specialOf
 refine wpAny_bind (wpAny_bind (L0.here ((looks_findIn X hg).here ?_)))
 dsimp only
 rw [if_pos canon_tga]
 refine wpAny_bind (wpAny_mono (Q := fun v => Q (v, [])) (E := E) ?_ (fun ι ι z => wpAny_pure z) fun ι ι z => z)
 have LO : Looks (model prog w) s.heap (opaqueClassAbove (.type T)) none := Looks.of_pure hstub
 exact cls_open X LO L0 hg (looks_hook X (r := none) (by rfl)) (by show subIn K _ _ = _; rfl) e
  (wpAny_pure (by show wpAny _ _ (handedOut v) _ _ _; rw [handedOut_of hh]; exact wpAny_pure h))
theorem bind247 (a v : Value) : bindArgs fd247 ⟨[a, v], []⟩ = (newTuple [v] >>= fun t => alloc emptyDict >>= fun d => pure [(q_cls, a), (Zs "args", t), (Zs "kwargs", .ref d)]) := by kernel_rfl!
theorem type_object : typeOf (.type "object") = pure (.type "type") := by kernel_rfl!
theorem handed_new : handedIn (.builtin "object.__new__") = true := by kernel_rfl!
theorem stub_object : Manifest.isStub "object" = false := by decide +kernel
theorem findObjectNew : findCls K (.type "object") (.type "type") q_new = some (.val (.builtin "object.__new__")) := by kernel_rfl!
theorem isnot_other {x y : Addr} {ox oy : Obj} {Q : Value -> Shared -> Prop} (hxy : x ≠ y) (hx : s.heap.get? x = some ox) (hy : s.heap.get? y = some oy) (hnt : oy.cls ≠ .type "tuple") (h : Q (.bool true) s) : wpAny (model prog w) A (compareOp .IsNot (.ref x) (.ref y)) Q E s := by
 show wpAny _ A (do return Value.bool (!(<- isSame (.ref x) (.ref y)))) Q E s
 exact wpAny_bind (SeqAt.wpAny_isSame_ref_other' hxy hx hy hnt (wpAny_pure h))
theorem isnot_self {x : Addr} {Q : Value -> Shared -> Prop} (h : Q (.bool false) s) : wpAny (model prog w) A (compareOp .IsNot (.ref x) (.ref x)) Q E s := by
 show wpAny _ A (do return Value.bool (!(<- isSame (.ref x) (.ref x)))) Q E s
 exact wpAny_bind (wpAny_isSame_ref_self (wpAny_pure h))
theorem meth_objnew {pl : Sem Bool} {Q : Value × List Value -> Shared -> Prop} (X : K.In s.heap) (h : Q (.builtin "object.__new__", []) { s with toks := s.toks + 1 }) : wpAny (model prog w) A (getMethod (.type "object") q_new pl) Q E s :=
 meth_typeX (T := "object") (name := q_new) (v := .builtin "object.__new__") X type_object stub_object findObjectNew handed_new h
theorem call_new {Q : Flow -> Shared -> Prop} (G : Gd K s.heap) (X : K.In s.heap) (F : SioK K ⟨prog, w.params⟩)
 (q : ∀ h' tk x dx, (∀ b o, s.heap.get? b = some o -> h'.get? b = some o) -> s.heap.get? x = none -> s.heap.get? dx = none -> x ≠ dx -> dx ≠ sysModules -> h'.get? dx = some emptyDict -> h'.get? x = some (instObj 754 dx) -> Q (.ret (.ref x)) { s with heap := h', toks := tk }) : wpAny (model prog w) A (call (.builtin "object.__new__") [.ref 754]) (fun v s' => Q (.ret v) s') E s := by
 refine wpAny_call (new_sio X F ?_)
 have ne : s.heap.objs.size + 1 ≠ s.heap.objs.size := Nat.succ_ne_self _
 have z1 : s.heap.get? (s.heap.objs.size + 1) = none := by
  cases e : s.heap.get? (s.heap.objs.size + 1) with
  | none => rfl
  | some o => exact absurd (Heap.lt_size e) (Nat.not_lt.mpr (Nat.le_succ _))
 have g1 : ((s.heap.push emptyDict).push (instObj 754 s.heap.objs.size)).get? (s.heap.objs.size + 1) = some (instObj 754 s.heap.objs.size) := by
  have := Heap.get?_push_size (s.heap.push emptyDict) (o := instObj 754 s.heap.objs.size) rfl
  rw [push_size] at this; exact this
 exact q _ s.toks _ _ (fun b o e => push_keep _ _ _ _ (push_keep _ _ _ _ e)) z1 (get_size s.heap) ne G.sys (push_keep _ _ _ _ (Heap.get?_push_size _ rfl)) g1
set_option maxHeartbeats 400000 in
theorem body_247 {env : Env} {m : Str -> Option Value} {Q : Flow -> Shared -> Prop} (G : Gd K s.heap) (F : SioK K ⟨prog, w.params⟩) (hsc : env.scope = sc247) (hgl : env.globals = mainGlobals) (hbl : env.builtins = builtinsNs) (hns : s.heap.Ns env.locals m) (hm : m q_cls = some (.ref 754))
 (q : ∀ h' tk x dx, (∀ b o, s.heap.get? b = some o -> h'.get? b = some o) -> s.heap.get? x = none -> s.heap.get? dx = none -> x ≠ dx -> dx ≠ sysModules -> h'.get? dx = some emptyDict -> h'.get? x = some (instObj 754 dx) -> Q (.ret (.ref x)) { s with heap := h', toks := tk }) : wpAny (model prog w) A (execs b247 env) Q E s := by
 have hk : env.scope.kind = .function := by rw [hsc]; rfl
 have kd : ∀ x, env.kindOf x = sc247.names.lookup x := fun x => by unfold Env.kindOf; rw [hsc]
 have X := G.kin
 have ncls : ∀ {p : Pos} {Q : Value -> Shared -> Prop} {E : Value -> Shared -> Prop} {tk : Nat}, Q (.ref 754) { s with toks := tk } -> wpAny (model prog w) A (eval (.Name q_cls p) env) Q E { s with toks := tk } := fun h =>
  wpAny_Name (wpAny_loadName_local hk ((kd _).trans (by kernel_rfl!)) (s := { s with toks := _ }) hns hm h) (by decide)
 obtain ⟨mg, hg⟩ := G.gns
 have hg' : s.heap.Ns env.globals mg := by rw [hgl]; exact hg
 obtain ⟨b, hb1, hb2, ⟨bd, bc, bs, hb3⟩⟩ := F.byt
 obtain ⟨oc, od, cd, sl, hC, e1, e2⟩ := F.cls
 have e1 : ∀ {Q : Bool -> Shared -> Prop} {E : Value -> Shared -> Prop} {p p1 p2 : Pos} {wh : Sem Value}, Q true s -> wpAny (model prog w) A (PySem.isTrue (.Compare (.Name q_cls p) [.IsNot] [.Name (Zs "BytesIO") p1] p2) env wh) Q E s := fun h =>
  wpAny_isTrue_Compare1 (ncls (tk := s.toks) (Name_function_global hk ((kd _).trans (by kernel_rfl!)) (loadGlobal_global hg' (mg_of X hg hb1) (isnot_other hb2.symm (X _ _ hC) (X _ _ hb3) (by show Value.type "type" ≠ _; decide) (wpAny_truthy_bool h))) (by decide))) rfl
 have e2 : ∀ {Q : Bool -> Shared -> Prop} {E : Value -> Shared -> Prop} {p p1 p2 : Pos} {wh : Sem Value}, Q false s -> wpAny (model prog w) A (PySem.isTrue (.Compare (.Name q_cls p) [.IsNot] [.Name (Zs "StringIO") p1] p2) env wh) Q E s := fun h =>
  wpAny_isTrue_Compare1 (ncls (tk := s.toks) (Name_function_global hk ((kd _).trans (by kernel_rfl!)) (loadGlobal_global hg' (mg_of X hg F.str) (isnot_self (wpAny_truthy_bool h))) (by decide))) rfl
 unfold b247
 refine wpAny_execs_cons (wpAny_If (isTrue_and (e1 ?_)))
 rw [if_pos rfl]
 refine isTrue_and (e2 ?_)
 rw [if_neg (by decide), if_neg (by decide)]
 refine wpAny_execs_nil (wpAny_execs_cons (wpAny_Return_some ?_))
 refine methodCall_KW (pl := do return (<- importBound (.Name (Zs "object") ⟨132, 15, 132, 21⟩) env).getD true) ?_ (by
  rw [arm_eval_Call, notSuper_ok rfl]
  unfold methodCall calleeOf methodCallPos
  have form : methodCallForm ([Expr.Name q_cls ⟨132, 30, 132, 33⟩].length + ([] : List Keyword).length) (backTo ⟨132, 15, 132, 34⟩ (starEach [Expr.Name q_cls ⟨132, 30, 132, 33⟩] env)) (backToKw ⟨132, 15, 132, 34⟩ (keywordEach [] env)) = true := by rfl
  have line : ((⟨132, 15, 132, 29⟩ : Pos).endLine == (⟨132, 15, 132, 34⟩ : Pos).line) = true := by decide
  simp only [form, line, if_true, Bool.not_true, Bool.false_or, pure_bind])
 obtain ⟨mb, hb, hbq⟩ := G.bns
 have hno : mg (Zs "object") = none := mg_none_of X hg F.obj.1
 have hbo : mb (Zs "object") = some (.type "object") := (hbq _ F.nm).trans F.obj.2
 have hb' : s.heap.Ns env.builtins mb := by rw [hbl]; exact hb
 have hko : env.kindOf (Zs "object") = some .globalImplicit := (kd _).trans (by kernel_rfl!)
 refine Name_function_global hk hko (loadGlobal_builtin hg' hno hb' hbo ?_) (by decide)
 refine meth_objnew X ?_
 refine callWith_of (P := K.In) rfl (fun ι ι => ⟨.machine, .inr (.inl rfl), .now⟩) (evalArgs_gen rfl rfl ?_)
 refine wpAny_items_cons (ncls (tk := s.toks + 1) (wpAny_items_nil (wpAny_evalAll_nil ⟨X, ?_⟩)))
 exact call_new (s := { s with toks := s.toks + 1 }) G X F q
theorem def247 (L : Lo K) (G : Gd K s.heap) (F : SioK K ⟨prog, w.params⟩) (hd : A.depth < recursionLimit) {v : Value}
 (hq : ∀ h' tk x dx, (∀ b o, s.heap.get? b = some o -> h'.get? b = some o) -> s.heap.get? x = none -> s.heap.get? dx = none -> x ≠ dx -> dx ≠ sysModules -> h'.get? dx = some emptyDict -> h'.get? x = some (instObj 754 dx) -> R (.ok (.ret (.ref x))) { s with heap := h', toks := tk }) :
 codeAny (model prog w) A (.call (.ref 247) ⟨[.ref 754, v], []⟩) R s := by
 obtain ⟨oc, od, sl, ho⟩ := F.fn
 refine codeAny_call_function hd (G.kin _ _ ho) rfl (by rw [scope247]; rfl) (by rw [scope247]; rfl) body247 (codeRec_of G.kin F.code) ?_
 rw [bind247]
 refine wpAny_bind (wpAny_newTuple ?_ (by show 1 <= sizeLine; rw [sizeLine_eq]; decide))
 refine wpAny_bind (wpAny_alloc (wpAny_pure ?_))
 have k1 : ∀ b o, s.heap.get? b = some o -> (((s.heap.push (seqObj "tuple" #[v] 0)).push emptyDict)).get? b = some o := fun b o e => push_keep _ _ _ _ (push_keep _ _ _ _ e)
 have hlim : ((s.heap.push (seqObj "tuple" #[v] 0)).push emptyDict).NoLimit := G.lim.keeps k1
 have hloc : ∀ (t d : Value) (x : Str × Value), x ∈ [(q_cls, Value.ref 754), (Zs "args", t), (Zs "kwargs", d)] -> fd247.scope.names.lookup x.1 = some .local := by
  intro t d x hx
  rw [scope247]
  simp only [List.mem_cons, List.not_mem_nil, or_false] at hx
  rcases hx with rfl | rfl | rfl <;> kernel_rfl!
 refine wpAny_newFunctionEnv (by rw [scope247]; decide) (hloc _ _) (fun h₀ hns hsb => ⟨hlim.fresh _ hsb, codeAny_func ?_⟩) (by rw [scope247]; rfl)
 have k2 : ∀ b o, s.heap.get? b = some o -> h₀.get? b = some o := fun b o e => hsb.extBut b o (Nat.ne_of_lt (Heap.lt_size (k1 b o e))) (Heap.get?_push_of_some _ (k1 b o e))
 have nn : ∀ {x : Addr}, h₀.get? x = none -> s.heap.get? x = none := fun {x} e => by
  cases z : s.heap.get? x with
  | none => rfl
  | some o => rw [k2 x o z] at e; cases e
 refine body_247 (G.keeps L fun b o ι ι e => k2 b o e) F scope247 glob247 bltin247 hns rfl fun h' tk x dx kp zx zd ne ns gd gx => ?_
 exact hq h' tk x dx (fun b o e => kp b o (k2 b o e)) (nn zx) (nn zd) ne ns gd gx
theorem mk754 (L : Lo K) (F : SioK K ⟨prog, w.params⟩) : MkOk K prog w 754 524 := by
 intro A R s rest kw G hr h0 h
 obtain ⟨v, rfl, rfl⟩ := h0 rfl
 have X := G.kin
 refine code_peek X (F.c1 v) (by kernel_rfl) ?_
 refine codeAny_call_builtin_at (Code.quiet_builtin _ (by decide +kernel)) entry_typeCall ((Looks.of_peek X (F.c2 v)).here ?_)
 obtain ⟨mm, hm1, hm2⟩ := F.mro
 unfold Builtin.«type.__call__»
 dsimp only
 rw [if_neg (by decide)]
 refine wpAny_bind ((Looks.of_peek X hm1).here ?_)
 rw [hm2, if_neg (by decide)]
 refine wpAny_bind ((Looks.of_peek X F.mb).here ?_)
 dsimp only
 refine wpAny_bind (cls_bind X F.rd F.fc (wpAny_call (sm_get (s := { s with toks := s.toks + 1 }) X F.rc ?_)))
 show wpAny _ _ (handedOut (.ref 247)) _ _ _
 rw [handedOut_of rfl]
 refine wpAny_pure ?_
 refine wpAny_bind (wpAny_holding (wpAny_call (def247 (s := { s with toks := s.toks + 1 }) L G F ?_ fun h' tk x dx kp zx zd ne ns gd gx => ?_)))
 · have := hr.1
   show A.depth + 1 < _
   exact rm_1 ‹_› rfl
 have X' := X.keeps kp
 have I : InstAt h' x (instObj 754 dx) 754 (some emptyDict) := ⟨gx, rfl, rfl, gd⟩
 have t1 : Looks (model prog w) h' (typeOf (.ref x)) (.ref 754) := (Looks.ld gx).andThen .now
 have ti : Looks (model prog w) h' (isInstance (.ref x) (.ref 754)) true := by
  show Looks _ _ (typeOf (.ref x) >>= fun t => isSubtype t (.ref 754)) true
  exact Looks.andThen (f := fun t => isSubtype t (.ref 754)) t1 (Looks.of_peek X' F.sub)
 refine wpAny_bind (ti.here (s := { s with heap := h', toks := tk }) ?_)
 rw [if_neg (by decide)]
 refine wpAny_bind (wpAny_holding (special_fn (s := { s with heap := h', toks := tk }) X' I F.ini F.fun_ (wpAny_call (codeAny_mono (h _ h' tk x dx (tcall_near A 754 [v] []) kp zx zd ne ns gd gx) fun r s' z => ?_))))
 rcases r with e | (y | _ | _ | _) <;> first | exact z | exact z.elim | skip
 obtain ⟨rfl, z⟩ := z
 exact wpAny_pure z
end
end
section
set_option maxRecDepth 100000
variable {K : Frag} {prog : Program} {w : World} {n : Nat} {r : Rec}
noncomputable abbrev q_s : Str := Zs "s"
noncomputable abbrev q_fu : Str := Zs "_find_unsafe"
noncomputable abbrev q_one : Str := Zs "'"
noncomputable abbrev q_five : Str := Zs "'\"'\"'"
noncomputable def b916 : List Stmt := [.If (.UnaryOp .Not (.Name q_s ⟨842, 11, 842, 12⟩) ⟨842, 7, 842, 12⟩) [.Return (some (.Constant (.str (Zs "''")) 0 ⟨843, 15, 843, 19⟩)) ⟨843, 8, 843, 19⟩] [] ⟨842, 4, 843, 19⟩,
 .If (.Compare (.Call (.Name q_fu ⟨844, 7, 844, 19⟩) [.Name q_s ⟨844, 20, 844, 21⟩] [] ⟨844, 7, 844, 22⟩) [.Is] [.Constant .none 0 ⟨844, 26, 844, 30⟩] ⟨844, 7, 844, 30⟩) [.Return (some (.Name q_s ⟨845, 15, 845, 16⟩)) ⟨845, 8, 845, 16⟩] [] ⟨844, 4, 845, 16⟩,
 .Return (some (.BinOp (.BinOp (.Constant (.str q_one) 0 ⟨846, 11, 846, 14⟩) .Add (.Call (.Attribute (.Name q_s ⟨846, 17, 846, 18⟩) (Zs "replace") ⟨846, 17, 846, 26⟩) [.Constant (.str q_one) 0 ⟨846, 27, 846, 30⟩, .Constant (.str q_five) 0 ⟨846, 32, 846, 42⟩] [] ⟨846, 17, 846, 43⟩) ⟨846, 11, 846, 43⟩) .Add (.Constant (.str q_one) 0 ⟨846, 46, 846, 49⟩) ⟨846, 11, 846, 49⟩)) ⟨846, 4, 846, 49⟩]
theorem body916 : fn916.body = b916 := by kernel_rfl!
theorem kind916 : look q_s fn916.fd.scope.names = some .local /\ look q_fu fn916.fd.scope.names = some .globalImplicit := ⟨by kernel_rfl!, by kernel_rfl!⟩
noncomputable def l206 : List (Str × Bool) := (nlook 206 srchTab).getD []
theorem l206_eq : nlook 206 srchTab = some l206 := by kernel_rfl!
noncomputable def quoteA (x : Str) : Option Str := match x.cps.toList with
 | [] => some (Zs "''")
 | _ :: _ => (match look x l206 with
  | some false => some x
  | some true => bnd (replW x q_one q_five) fun t => (match small (cat q_one t), small (cat (cat q_one t) q_one) with | true, true => some (cat (cat q_one t) q_one) | _, _ => none)
  | none => none)
noncomputable def okQ : List (Str × Str) -> Bool
 | [] => true
 | p :: l => (match quoteA p.1 with | some y => seq y p.2 | none => false) && (small p.1 && okQ l)
set_option tactic.hygienic true in
theorem okQ_ok {x y : Str} : ∀ {l : List (Str × Str)}, okQ l = true -> (x, y) ∈ l -> quoteA x = some y /\ small x = true
 | p :: l, h, m => by
  unfold okQ at h
  rw [Bool.and_eq_true, Bool.and_eq_true] at h
  rcases List.mem_cons.mp m with rfl | m
  · refine ⟨?_, h.2.1⟩
    have h := h.1
    dsimp only at h
    split at h
    · rename_i z e; rw [e, seq_iff.mp h]
    · cases h
  · exact okQ_ok h.2.2 m
theorem quot_chk : okQ quotTab = true := by kernel_rfl!
section
variable {A : Around} {E : Value -> Shared -> Prop} {s : Shared}
theorem quote_sum {env : Env} {x tt : Str} {t : Tok} {Q : Value -> Shared -> Prop} (nm : ∀ {p : Pos} {Q : Value -> Shared -> Prop} {E : Value -> Shared -> Prop} {tk : Nat}, Q (.str x t) { s with toks := tk } -> wpAny (model prog w) A (eval (.Name q_s p) env) Q E { s with toks := tk })
 (h1 : replW x q_one q_five = some tt) (f1 : small (cat q_one tt) = true) (f2 : small (cat (cat q_one tt) q_one) = true) (q : ∀ tk t', Q (.str (cat (cat q_one tt) q_one) t') { s with toks := tk }) {p1 p2 p3 p4 p5 p6 p7 p8 p9 : Pos} (hl : (p3.endLine == p6.line) = true) :
 wpAny (model prog w) A (eval (.BinOp (.BinOp (.Constant (.str q_one) 0 p1) .Add (.Call (.Attribute (.Name q_s p2) (Zs "replace") p3) [.Constant (.str q_one) 0 p4, .Constant (.str q_five) 0 p5] [] p6) p7) .Add (.Constant (.str q_one) 0 p8) p9) env) Q E s := by
 obtain ⟨r1, r2, r3, r4⟩ := replW_ok h1
 refine wpAny_BinOp (wpAny_BinOp (wpAny_Constant_str ?_))
 refine methodCall_KW (pl := do return (<- importBound (.Name q_s p2) env).getD true) ?_ (by
  rw [arm_eval_Call, notSuper_ok rfl]
  unfold methodCall calleeOf methodCallPos
  have form : methodCallForm ([Expr.Constant (.str q_one) 0 p4, Expr.Constant (.str q_five) 0 p5].length + ([] : List Keyword).length) (backTo p6 (starEach [Expr.Constant (.str q_one) 0 p4, Expr.Constant (.str q_five) 0 p5] env)) (backToKw p6 (keywordEach [] env)) = true := by rfl
  simp only [form, hl, if_true, Bool.not_true, Bool.false_or, pure_bind])
 refine nm ?_
 refine getMethod_builtin (typeIs_str _ _ _) PySem.F.plainAttrs_str F.slot_str_replace F.type_str_replace GM.noRef ?_
 refine callWith_of (P := fun ι => True) rfl (fun ι ι => ⟨.machine, .inr (.inl rfl), .now⟩) (evalArgs_gen rfl rfl ?_)
 refine wpAny_items_cons (wpAny_Constant_str (wpAny_items_cons (wpAny_Constant_str (wpAny_items_nil (wpAny_evalAll_nil ⟨trivial, ?_⟩)))))
 refine SC.replaceW (by show s.toks + 1 ≠ 0; lia) (by show s.toks + 1 + 1 ≠ 0; lia) (by show s.toks + 1 ≠ s.toks + 1 + 1; lia) r2 (le_c ‹_› rfl) r4 fun t' k => ?_
 rw [r1]
 refine P.add_str (add_made f1 fun t1 tk1 => ?_)
 refine wpAny_Constant_str ?_
 exact P.add_str (add_made f2 fun t2 tk2 => q _ _)
set_option tactic.hygienic true in
theorem body_916 {env : Env} {m : Str -> Option Value} {Q : Flow -> Shared -> Prop} {x y : Str} {t : Tok} (hx : quoteA x = some y) (sm : small x = true) (G : Gd K s.heap) (PT : Pats K) (hk909 : KpOk K prog w) (hfu : nsIn K mainGlobals q_fu = some (some (.ref 909)))
 (hsc : env.scope = fn916.fd.scope) (hkk : fn916.fd.scope.kind = .function) (hgl : env.globals = mainGlobals) (hns : s.heap.Ns env.locals m) (hm : m q_s = some (.str x t))
 (q : ∀ h' tk t', (∀ b o, s.heap.get? b = some o -> h'.get? b = some o) -> Q (.ret (.str y t')) { s with heap := h', toks := tk }) : wpAny (model prog w) A (execs b916 env) Q E s := by
 have hk : env.scope.kind = .function := by rw [hsc]; exact hkk
 have kd : ∀ z, env.kindOf z = look z fn916.fd.scope.names := fun z => by unfold Env.kindOf; rw [hsc, look_eq]
 have nm : ∀ {p : Pos} {Q : Value -> Shared -> Prop} {E : Value -> Shared -> Prop} {h' : Heap} {tk : Nat}, (∀ b o, s.heap.get? b = some o -> h'.get? b = some o) -> Q (.str x t) { s with heap := h', toks := tk } -> wpAny (model prog w) A (eval (.Name q_s p) env) Q E { s with heap := h', toks := tk } := fun k h =>
  wpAny_Name (wpAny_loadName_local hk ((kd _).trans kind916.1) (s := { s with heap := _, toks := _ }) (let ⟨o, es, ep, e, r⟩ := hns; ⟨o, es, ep, k _ _ e, r⟩) hm h) (by decide)
 have sml := small_ok sm
 have tru : ∀ {Q : Bool -> Shared -> Prop} {E : Value -> Shared -> Prop}, (∀ tk, Q (match x.cps.toList with | [] => false | _ :: _ => true) { s with toks := tk }) -> wpAny (model prog w) A (truthy (.str x t)) Q E s := fun q => by
  refine P.truthy_str (by lia) ?_
  have e : ((x.length : Int) != 0) = (match x.cps.toList with | [] => false | _ :: _ => true) := by
   obtain ⟨⟨l⟩⟩ := x
   cases l with
   | nil => rfl
   | cons c r =>
    show ((((c :: r).length : Nat) : Int) != 0) = true
    exact bne_iff_ne.mpr (by rw [List.length_cons]; lia)
  rw [e]; exact q _
 have X := G.kin
 obtain ⟨mg, hg⟩ := G.gns
 have hg' : s.heap.Ns env.globals mg := by rw [hgl]; exact hg
 have hfg := mg_of X hg hfu
 have fnd : ∀ {p1 p2 p3 : Pos} {b : Bool} {Q : Value -> Shared -> Prop} {E : Value -> Shared -> Prop} {tk : Nat}, look x l206 = some b -> (match b with
  | false => ∀ tk, Q .none { s with toks := tk }
  | true => ∀ h' tk m, (∀ c o, s.heap.get? c = some o -> h'.get? c = some o) -> s.heap.get? m = none -> Q (.ref m) { s with heap := h', toks := tk }) -> wpAny (model prog w) A (eval (.Call (.Name q_fu p1) [.Name q_s p2] [] p3) env) Q E { s with toks := tk } := fun {_ _ _ b _ _ tk} hb q => by
  refine wpAny_Call_Name_kw (Name_function_global hk ((kd _).trans kind916.2) (loadGlobal_global (s := { s with toks := tk }) hg' hfg ?_) (by decide))
  refine callWith_of (P := K.In) rfl hk909 (evalArgs_gen rfl rfl ?_)
  refine wpAny_items_cons (nm (tk := tk) (fun ι ι e => e) (wpAny_items_nil (wpAny_evalAll_nil ⟨X, ?_⟩)))
  exact fsr_ok PT l206_eq hb (s := { s with toks := tk }) X q
 have id0 : ∀ b o, s.heap.get? b = some o -> s.heap.get? b = some o := fun ι ι e => e
 unfold b916
 refine wpAny_execs_cons (wpAny_If (isTrue_not (isTrue_plain (nm (tk := s.toks) id0 (tru fun tk => ?_)))))
 unfold quoteA at hx
 split at hx
 · rename_i e
   cases hx
   rw [if_pos (by decide)]
   exact wpAny_execs_cons (wpAny_Return_some (wpAny_Constant_str (q _ _ _ id0)))
 · rename_i c l e
   rw [if_neg (by decide)]
   refine wpAny_execs_nil ?_
   split at hx
   · rename_i hb
     cases hx
     refine wpAny_execs_cons (wpAny_If (wpAny_isTrue_Compare1 (fnd hb ?_) rfl))
     intro tk2
     refine wpAny_Constant_none (is_none_gen (wpAny_truthy_bool ?_))
     rw [if_pos (by decide)]
     exact wpAny_execs_cons (wpAny_Return_some (nm id0 (q _ _ _ id0)))
   · rename_i hb
     obtain ⟨tt, h1, hx⟩ := bnd_some hx
     split at hx
     · rename_i f1 f2
       cases hx
       refine wpAny_execs_cons (wpAny_If (wpAny_isTrue_Compare1 (fnd hb ?_) rfl))
       intro h' tk2 mm kp nmm
       refine wpAny_Constant_none (is_none_gen (wpAny_truthy_bool ?_))
       rw [if_neg (show ¬ ((Value.ref mm == Value.none) = true) from Bool.false_ne_true)]
       refine wpAny_execs_nil (wpAny_execs_cons (wpAny_Return_some ?_))
       exact quote_sum (s := { s with heap := h', toks := tk2 }) (fun h => nm kp h) h1 f1 f2 (fun tk t' => q _ _ _ kp) (by decide)
     · cases hx
   · cases hx
theorem qu_ok (hT : TOk K TT) (L : Lo K) (PT : Pats K) (hk909 : KpOk K prog w) (hfu : nsIn K mainGlobals q_fu = some (some (.ref 909))) : QuOk K prog w := by
 intro x y A E s t Q hq G hh hd hu q
 obtain ⟨hx, sm⟩ := okQ_ok quot_chk (look_mem hq)
 have F := hT.fn 916 [fn916] fn916 (by kernel_rfl!) (.head _)
 obtain ⟨oc, od, sl, ho⟩ := F.at_
 cases F.ki with
 | dict z k1 => cases k1
 | cell z k1 k2 => cases k2
 | plain k1 k2 k3 k4 k5 =>
 have hbd := k5 s [.str x t] [] G.kin rfl rfl
 refine wpAny_call (codeAny_call_def (fd := fn916.fd) (body := b916) (binds := bindsV [.str x t] [] fn916.binds) (rm_0 ‹_›) (G.kin _ _ ho) rfl G.lim (codeRec_of G.kin F.code) (by rw [F.body, body916]) hbd k3 (fun z hz => ?_) (fun h₀ hns hk => ?_) F.co F.ge F.kd)
 · obtain ⟨p, hp, rfl⟩ := List.mem_map.mp hz
   exact k4 p hp
 · refine body_916 (s := { s with heap := h₀, toks := s.toks + (bindsV [.str x t] [] fn916.binds).length }) hx sm (G.keeps L fun b o ι ι e => hk b o e) PT hk909 hfu rfl F.kd F.gl hns rfl fun h' tk t' kp => ?_
   exact q h' tk t' fun b o e => kp b o (hk b o e)
end
theorem str_ext {a b : Str} (h : a.cps.toList = b.cps.toList) : a = b := by
 cases a; cases b; simp only [Str.mk.injEq]; exact Array.toList_inj.mp h
theorem joinL_eq (s : Str) : ∀ l : List Str, Str.join s l = joinL s l
 | [] => rfl
 | [x] => rfl
 | x :: y :: r => by
  show (x ++ s) ++ Str.join s (y :: r) = cat x (cat s (joinL s (y :: r)))
  rw [joinL_eq s (y :: r)]
  refine str_ext ?_
  show ((x.cps ++ s.cps) ++ (joinL s (y :: r)).cps).toList = x.cps.toList ++ (s.cps.toList ++ (joinL s (y :: r)).cps.toList)
  simp
theorem join_small {ys : List Str} (h : small (joinL s_space ys) = true) : JoinOk s_space ys = true /\ Txt.join s_space ys = joinL s_space ys := by
 have e : Txt.join s_space ys = joinL s_space ys := by
  show Builtin.Str.glued s_space ys = _
  rw [StrLaws.glued_eq_join, joinL_eq]
 refine ⟨?_, e⟩
 have hl := small_ok h
 rw [<- e] at hl
 have hl : (Builtin.Str.glued s_space ys).length <= 100000 := hl
 rw [PySem.size_glued] at hl
 unfold JoinOk Builtin.Str.tooLong
 rw [StrLaws.joinTotal, Bool.not_eq_true', decide_eq_false_iff_not, sizeLine_eq]
 have h1 : s_space.length = 1 := by decide +kernel
 rw [h1] at hl ⊢
 lia
theorem items_ok {F : Fz} {l : List PyData} {xs ys : List Str} {vs : List Value} (h1 : strsOf l = some xs) (h2 : quots xs = some ys) (V : FRs F l vs) : ys.length = vs.length /\ ∀ (j : Nat) v, vs[j]? = some v -> ∃ x y t, v = .str x t /\ ys[j]? = some y /\ look x quotTab = some y :=
 FRs.ind (P := fun l vs => ∀ xs ys, strsOf l = some xs -> quots xs = some ys -> ys.length = vs.length /\ ∀ (j : Nat) v, vs[j]? = some v -> ∃ x y t, v = .str x t /\ ys[j]? = some y /\ look x quotTab = some y) (fun xs ys h1 h2 => by
  have e1 : [] = xs := Option.some.inj h1
  subst e1
  have e2 : [] = ys := Option.some.inj h2
  subst e2
  exact ⟨rfl, fun j v h => none_el (show (none : Option Value) = some v from h)⟩) (fun {d v l vs} a _ ih xs ys h1 h2 => by
  refine bnd_el (show bnd (strP d) (fun x => bnd (strsOf l) fun l => some (x :: l)) = some xs from h1) fun x hx h1 => bnd_el h1 fun xs' h3 h1 => ?_
  rw [strP_inv hx] at a
  obtain ⟨t, rfl⟩ := a.out
  refine some_el (q := fun xs => quots xs = some ys -> ys.length = (Value.str x t :: vs).length /\ ∀ (j : Nat) v, (Value.str x t :: vs)[j]? = some v -> ∃ x y t, v = .str x t /\ ys[j]? = some y /\ look x quotTab = some y) h1 (fun h2 => ?_) h2
  refine bnd_el (show bnd (look x quotTab) (fun y => bnd (quots xs') fun ys => some (y :: ys)) = some ys from h2) fun y h4 h2 => bnd_el h2 fun ys' h5 h2 => some_el h2 ?_
  obtain ⟨e1, e2⟩ := ih xs' ys' h3 h5
  refine ⟨congrArg Nat.succ e1, fun j v hj => ?_⟩
  cases j with
  | zero => exact ⟨x, y, t, (Option.some.inj hj).symm, rfl, h4⟩
  | succ j => exact e2 j v hj) V xs ys h1 h2
noncomputable abbrev q_arg : Str := Zs "arg"
noncomputable abbrev q_sc : Str := Zs "split_command"
noncomputable abbrev q_quote : Str := Zs "quote"
noncomputable abbrev s_dot0 : Str := Zs ".0"
noncomputable def gsc : Scope := ⟨.function, [(s_dot0, .local), (q_arg, .local), (q_quote, .globalImplicit)], true, false, []⟩
noncomputable def gelt : Expr := .Call (.Name q_quote ⟨838, 21, 838, 26⟩) [.Name q_arg ⟨838, 27, 838, 30⟩] [] ⟨838, 21, 838, 31⟩
noncomputable def giter : Expr := .Name q_sc ⟨838, 43, 838, 56⟩
noncomputable def b908 : List Stmt := [.Return (some (.Call (.Attribute (.Constant (.str s_space) 0 ⟨838, 11, 838, 14⟩) s_join ⟨838, 11, 838, 19⟩) [.GeneratorExp gelt [⟨.Name q_arg ⟨838, 36, 838, 39⟩, giter, [], 0⟩] gsc ⟨838, 20, 838, 57⟩] [] ⟨838, 11, 838, 58⟩)) ⟨838, 4, 838, 58⟩]
theorem body908 : fn908.body = b908 := by kernel_rfl!
theorem kind908 : look q_sc fn908.fd.scope.names = some .local := by kernel_rfl!
theorem code908 : fn908.fd.code = .ref 907 := by kernel_rfl!
structure JnK (K : Frag) : Prop where
 code : ∃ od sl vs file tf flags tg inF text tt, K.lookup 907 = some ⟨.type "code", od, .fields vs, sl⟩ /\ vs.getD 11 .none = .ref PJ /\ vs[11]? = some (.ref PJ) /\ vs.getD 18 .none = .str file tf /\ vs.getD 7 .none = .int flags tg /\ vs.getD 9 .none = .bool inF /\ vs.getD 10 .none = .int text tt
 bi : nsIn K mainGlobals (Zs "__builtins__") = some (some (.ref BMA))
 gq : nsIn K mainGlobals q_quote = some (some (.ref 916))
 kq : keepIn K (.ref 916) = true
section
variable {A : Around} {E : Value -> Shared -> Prop} {s : Shared}
theorem isCode_of (J : JnK K) (X : K.In s.heap) {ps : Array Value} (g : s.heap.get? PJ = some (tabObj ps)) (t : TriplesOk ps.toList) : s.heap.IsCode 907 PJ ps /\ s.heap.TableAt 907 PJ ps := by
 obtain ⟨od, sl, vs, file, tf, flags, tg, inF, text, tt, h1, h2, h2', h3, h4, h5, h6⟩ := J.code
 exact ⟨⟨_, vs, file, tf, flags, tg, inF, text, tt, _, X _ _ h1, rfl, h2, h3, h4, h5, h6, g, rfl, t, by decide⟩, ⟨_, vs, X _ _ h1, rfl, rfl, h2'⟩, g⟩
theorem gen_code {env : Env} {pos : Pos} {qn : Str} {scope : Scope} {Q : Value -> Shared -> Prop} (J : JnK K) (X : K.In s.heap) (hc : env.code = .ref 907) {ps : Array Value} (g : s.heap.get? PJ = some (tabObj ps)) (t : TriplesOk ps.toList)
 (q : ∀ c h' tk more, (∀ b o, b ≠ PJ -> s.heap.get? b = some o -> h'.get? b = some o) -> h'.get? PJ = some (tabObj (ps ++ more)) -> TriplesOk (ps ++ more).toList -> Q c { s with heap := h', toks := tk }) : wpAny (model prog w) A (genexprCode env pos qn scope) Q E s := by
 obtain ⟨hok, htab⟩ := isCode_of J X g t
 cases hf : codeAmong pos ps.toList with
 | some c => exact wpAny_genexprCode_hit hc hok hf (q c s.heap s.toks #[] (fun ι ι ι e => e) (by simpa using g) (by simpa using t))
 | none =>
  refine wpAny_genexprCodeX hc hok htab hf fun c' h' tk hx ι ι hcode ι htab' ι => ?_
  obtain ⟨_, _, _, _, _, _, _, _, _, op, _, _, _, _, _, _, _, hop, hpd, ht, _⟩ := hcode
  exact q _ h' tk _ (fun b o nb e => hx b o nb e) htab'.2 ht
theorem quiet_gen (hQ : QuOk K prog w) (J : JnK K) {env : Env} {L0 : Addr} {code : Value} {href : Heap} {fp wr : List Addr} {us : Array Value} {ys : List Str} {D U : Nat} (hgl : env.globals = mainGlobals)
 (hit : ∀ (j : Nat) v, us[j]? = some v -> ∃ x y t, v = .str x t /\ ys[j]? = some y /\ look x quotTab = some y) (hG : ∀ h : Heap, (∀ b ∈ fp, b ∉ wr -> ∀ o, href.get? b = some o -> h.get? b = some o) -> Gd K h) (hD : D + 10 < recursionLimit) (hU : U + 80 < cLine) :
 QuietGenD prog w (genEnv gsc [] L0 code builtinsNs env) q_arg [] gelt fp wr (fun j v => us[j]? = some v) (fun ι => true) (fun i y => ∃ z t, ys[i]? = some z /\ y = .str z t) href D U where
 tests := fun A' E' i v s2 m2 ι ι ι ι ι ι ι => by
  rw [List.forIn_nil]
  exact wpAny_pure ⟨rfl, s2.heap, s2.toks, rfl, fun ι ι e => e⟩
 elt := fun A' E' i v s2 m2 hh hd hu hP ι hn hm hk => by
  obtain ⟨x, y, t, rfl, hy, hq⟩ := hit i v hP
  have G := hG s2.heap hk
  obtain ⟨mg, hg⟩ := G.gns
  have hg' : s2.heap.Ns (genEnv gsc [] L0 code builtinsNs env).globals mg := by show s2.heap.Ns env.globals mg; rw [hgl]; exact hg
  have kd : ∀ z, (genEnv gsc [] L0 code builtinsNs env).kindOf z = look z gsc.names := fun z => by unfold Env.kindOf; rw [look_eq]; rfl
  unfold gelt
  refine wpAny_Call_Name_kw (Name_function_global rfl ((kd _).trans (by kernel_rfl!)) (loadGlobal_global hg' (mg_of G.kin hg J.gq) ?_) (by decide))
  refine callWith_of (P := K.In) rfl (keeps_K J.kq) (evalArgs_gen rfl rfl ?_)
  refine wpAny_items_cons (wpAny_Name (wpAny_loadName_local rfl ((kd _).trans (by kernel_rfl!)) hn hm (wpAny_items_nil (wpAny_evalAll_nil ⟨G.kin, ?_⟩))) (by decide))
  refine hQ hq G hh (by lia) (by lia) fun h' tk t' kp => ?_
  exact ⟨⟨y, t', hy, rfl⟩, h', tk, rfl, kp⟩
end
section
variable {A : Around} {E : Value -> Shared -> Prop} {s : Shared}
theorem gsc_facts : (∀ y ∈ gsc.names, y.2 ≠ .cell) /\ (∀ y ∈ gsc.names, y.2 ≠ .free) /\ gsc.names.lookup (".0" : Str) = some NameKind.local /\ gsc.names.lookup q_arg = some .local := ⟨by decide, by decide, by kernel_rfl!, by kernel_rfl!⟩
theorem passing_all (n : Nat) : passing (fun ι => true) n 0 = List.range n := by
 unfold passing
 rw [List.drop_zero]
 exact List.filter_eq_self.mpr fun ι ι => rfl
theorem texts_of {ys : List Str} {l : List (Str × Tok)} (h : ItemsOf (fun j y => ∃ i, (List.range ys.length)[j]? = some i /\ ∃ z t, ys[i]? = some z /\ y = Value.str z t) (strValues l).toArray ys.length) : l.map (·.1) = ys := by
 obtain ⟨h1, h2⟩ := h
 have hl : l.length = ys.length := by simpa [strValues] using h1
 refine List.ext_getElem? fun j => ?_
 rw [List.getElem?_map]
 cases e : l[j]? with
 | none =>
  have : l.length <= j := List.getElem?_eq_none_iff.mp e
  rw [List.getElem?_eq_none (by lia)]; rfl
 | some p =>
  obtain ⟨i, hi, z, t, hz, he⟩ := h2 j (.str p.1 p.2) (by simp [strValues, e])
  have : i = j := by
   have hj : j < ys.length := by
    have := (List.getElem?_eq_some_iff.mp e).1
    lia
   rw [List.getElem?_range hj] at hi
   exact (Option.some.inj hi).symm
  subst this
  cases he
  rw [hz]; rfl
noncomputable def gexp : Expr := .GeneratorExp gelt [⟨.Name q_arg ⟨838, 36, 838, 39⟩, giter, [], 0⟩] gsc ⟨838, 20, 838, 57⟩
theorem gexp_form (env : Env) : methodCallForm ([gexp].length + ([] : List Keyword).length) (backTo ⟨838, 11, 838, 58⟩ (starEach [gexp] env)) (backToKw ⟨838, 11, 838, 58⟩ (keywordEach [] env)) = true := by kernel_rfl!
theorem join_call {env : Env} {Q : Value -> Shared -> Prop}
 (h : wpAny (model prog w) A (eval (.Constant (.str s_space) 0 ⟨838, 11, 838, 14⟩) env) (fun ov s₁ => wpAny (model prog w) A (getMethod ov s_join (do return (<- importBound (.Constant (.str s_space) 0 ⟨838, 11, 838, 14⟩) env).getD true)) (fun fx s2 => wpAny (model prog w) A (callWith ⟨838, 11, 838, 58⟩ fx.1 fx.2 (backTo ⟨838, 11, 838, 58⟩ (starEach [gexp] env)) (backToKw ⟨838, 11, 838, 58⟩ (keywordEach [] env))) Q E s2) E s₁) E s) :
 wpAny (model prog w) A (eval (.Call (.Attribute (.Constant (.str s_space) 0 ⟨838, 11, 838, 14⟩) s_join ⟨838, 11, 838, 19⟩) [gexp] [] ⟨838, 11, 838, 58⟩) env) Q E s :=
 methodCall_KW (pl := do return (<- importBound (.Constant (.str s_space) 0 ⟨838, 11, 838, 14⟩) env).getD true) h (by
  rw [arm_eval_Call, notSuper_ok rfl]
  unfold methodCall calleeOf methodCallPos
  have line : ((⟨838, 11, 838, 19⟩ : Pos).endLine == (⟨838, 11, 838, 58⟩ : Pos).line) = true := by decide
  simp only [gexp_form env, line, if_true, Bool.not_true, Bool.false_or, pure_bind])
theorem gexp_ok (L : Lo K) (hQ : QuOk K prog w) (J : JnK K) {env : Env} {m : Str -> Option Value} {a : Addr} {us : Array Value} {ys : List Str} {ps : Array Value} {Q : Value -> Shared -> Prop}
 (G : Gd K s.heap) (gj : s.heap.get? PJ = some (tabObj ps)) (tj : TriplesOk ps.toList) (hk : env.scope.kind = .function) (kd : ∀ z, env.kindOf z = look z fn908.fd.scope.names) (hcode : env.code = .ref 907) (hgl : env.globals = mainGlobals) (hns : s.heap.Ns env.locals m) (hm : m q_sc = some (.ref a)) (hl : s.heap.IsList a us) (hap : a ≠ PJ)
 (hit : ∀ (j : Nat) v, us[j]? = some v -> ∃ x y t, v = .str x t /\ ys[j]? = some y /\ look x quotTab = some y) (hh : A.handled = none) (hd : A.depth + 20 < recursionLimit) (hu : A.units + 120 < cLine)
 (q : ∀ (h4 h5 : Heap) (tk5 : Nat) (gs : GenState) (ga : Addr) (more : Array Value), (∀ b o, b ≠ PJ -> s.heap.get? b = some o -> h4.get? b = some o) -> h4.get? PJ = some (tabObj (ps ++ more)) -> TriplesOk (ps ++ more).toList -> s.heap.objs.size < h4.objs.size -> gs.bare = true -> h4.objs.size < ga -> h5.objs.size = ga + 1 -> (∀ b o, h4.get? b = some o -> h5.get? b = some o) ->
  WalksS prog w A.in4 ga (ga :: h4.objs.size :: List.range h4.objs.size) (h4.objs.size :: [s.heap.objs.size]) (GenOnlyQ s.gens.size) (passing (fun ι => true) us.size 0).length (fun j y => ∃ i, (passing (fun ι => true) us.size 0)[j]? = some i /\ ∃ z t, ys[i]? = some z /\ y = Value.str z t) (GenAt prog w A.in4 ga s.gens.size h4.objs.size (List.range h4.objs.size) [s.heap.objs.size] (fun ι => true) us.size (fun i y => ∃ z t, ys[i]? = some z /\ y = Value.str z t)) ->
  GenAt prog w A.in4 ga s.gens.size h4.objs.size (List.range h4.objs.size) [s.heap.objs.size] (fun ι => true) us.size (fun i y => ∃ z t, ys[i]? = some z /\ y = Value.str z t) 0 { s with gens := s.gens.push gs, toks := tk5, heap := h5 } -> Q (.ref ga) { s with gens := s.gens.push gs, toks := tk5, heap := h5 }) :
 wpAny (model prog w) A (eval gexp env) Q E s := by
 obtain ⟨f1, f2, f3, f4⟩ := gsc_facts
 have ha : a < s.heap.objs.size := by obtain ⟨_, e, _⟩ := hl; exact Heap.lt_size e
 have hpj : PJ < s.heap.objs.size := Heap.lt_size gj
 unfold gexp
 refine wpAny_GeneratorExp_walksQD (cl := []) hh rfl (closureFor_none f2) f1 f3 f4 rfl (rm_0 ‹_›) ?_ (fun ι => rfl)
 unfold giter
 refine wpAny_Name (wpAny_loadName_local hk ((kd _).trans kind908) hns hm ?_) (by decide)
 refine wpAny_pyIter_list hl ?_
 have k1 : ∀ b o, s.heap.get? b = some o -> (s.heap.push { cls := .type "list_iterator", data := .fields #[.ref a, .int 0 0] }).get? b = some o := fun b o e => push_keep _ _ _ _ e
 refine ⟨G.lim.keeps k1, ?_⟩
 have X1 := G.kin.keeps k1
 refine gen_code (s := { s with heap := s.heap.push { cls := .type "list_iterator", data := .fields #[.ref a, .int 0 0] } }) J X1 hcode (k1 _ _ gj) tj fun cd h4 tk more kx gx tx => ?_
 have k4 : ∀ b o, b ≠ PJ -> s.heap.get? b = some o -> h4.get? b = some o := fun b o nb e => kx b o nb (k1 b o e)
 have G4 : Gd K h4 := G.keeps L fun b o ι nb e => k4 b o nb e
 obtain ⟨bo, hb1, hb2, hb3, hb4⟩ := G4.smo
 obtain ⟨mg, hg⟩ := G4.gns
 refine wpAny_builtinsFor (s := { s with heap := h4, toks := tk }) (by rw [hgl]; exact hg) (mg_of G4.kin hg J.bi) (by decide) hb1 hb2 hb3 hb4 ?_
 have hI : (s.heap.push { cls := .type "list_iterator", data := .fields #[.ref a, .int 0 0] }).get? s.heap.objs.size = some { cls := .type "list_iterator", data := .fields #[.ref a, .int 0 0] } := Heap.get?_push_size _ rfl
 have hI4 := kx _ _ (Nat.ne_of_gt hpj) hI
 have hl4 : h4.IsList a us := hl.at fun o e => k4 a o hap e
 have big : ∀ {b o}, h4.get? b = some o -> b < h4.objs.size := fun e => Heap.lt_size e
 refine ⟨s.heap.objs.size, [s.heap.objs.size, a], [s.heap.objs.size], us.size, (fun i v => us[i]? = some v), _, (fun ι => true), (fun i y => ∃ z t, ys[i]? = some z /\ y = Value.str z t), rfl, (fun A' hh' => Walks.list hh' s.heap.objs.size a (Nat.ne_of_lt ha) us), ⟨⟨_, hI4, rfl, rfl⟩, hl4⟩, ?_, G4.lim, ?_, ?_, ?_⟩
 · intro b hb
   simp only [List.mem_cons, List.not_mem_nil, or_false] at hb
   rcases hb with rfl | rfl
   · exact big hI4
   · obtain ⟨_, e, _⟩ := hl4; exact big e
 · intro hc
   rw [List.mem_singleton] at hc
   obtain ⟨mc, hcn, _⟩ := G.lim
   exact absurd hc (Nat.ne_of_lt hcn.lt)
 · intro href hr
   refine quiet_gen hQ J hgl hit (fun h hk => ?_) (rm_2 ‹_› rfl) (rm_2 ‹_› rfl)
   refine G4.keeps L fun b o lb nb e => ?_
   have hlt : b < s.heap.objs.size := by
    obtain ⟨o', e'⟩ := G.there (F := fun ι => none) ⟨ps, gj, tj⟩ lb
    exact Heap.lt_size e'
   refine hk b (List.mem_range.mpr (big e)) (by rw [List.mem_singleton]; exact Nat.ne_of_lt hlt) o (hr b o e)
 · intro ga h5 tk5 gs hbare hD hs5 k5 W hst
   exact q h4 h5 tk5 gs ga more k4 gx tx (big hI4) hbare hD hs5 k5 W hst
theorem join_body (L : Lo K) (hQ : QuOk K prog w) (J : JnK K) {env : Env} {m : Str -> Option Value} {a : Addr} {us : Array Value} {ys : List Str} {ps : Array Value} {Q : Flow -> Shared -> Prop}
 (G : Gd K s.heap) (gj : s.heap.get? PJ = some (tabObj ps)) (tj : TriplesOk ps.toList) (hsc : env.scope = fn908.fd.scope) (hkk : fn908.fd.scope.kind = .function) (hcode : env.code = .ref 907) (hgl : env.globals = mainGlobals) (hns : s.heap.Ns env.locals m) (hm : m q_sc = some (.ref a)) (hl : s.heap.IsList a us) (hap : a ≠ PJ) (hal : ¬ Low K a)
 (hit : ∀ (j : Nat) v, us[j]? = some v -> ∃ x y t, v = .str x t /\ ys[j]? = some y /\ look x quotTab = some y) (hlen : ys.length = us.size) (hsz : us.size <= 10001) (sm : small (joinL s_space ys) = true) (hh : A.handled = none) (hd : A.depth + 20 < recursionLimit) (hu : A.units + 120 < cLine)
 (q : ∀ s' t', (∀ b o, b ≠ PJ -> s.heap.get? b = some o -> s'.heap.get? b = some o) -> (∃ more, s'.heap.get? PJ = some (tabObj (ps ++ more)) /\ TriplesOk (ps ++ more).toList) -> s'.os = s.os -> (AllBare s.gens -> AllBare s'.gens) -> Q (.ret (.str (joinL s_space ys) t')) s') :
 wpAny (model prog w) A (execs b908 env) Q E s := by
 have hk : env.scope.kind = .function := by rw [hsc]; exact hkk
 have kd : ∀ z, env.kindOf z = look z fn908.fd.scope.names := fun z => by unfold Env.kindOf; rw [hsc, look_eq]
 obtain ⟨f1, f2, f3, f4⟩ := gsc_facts
 have ha : a < s.heap.objs.size := by obtain ⟨_, e, _⟩ := hl; exact Heap.lt_size e
 have hpj : PJ < s.heap.objs.size := Heap.lt_size gj
 unfold b908
 refine wpAny_execs_cons (wpAny_Return_some ?_)
 refine join_call ?_
 refine wpAny_Constant_str ?_
 refine getMethod_builtin (typeIs_str _ _ _) PySem.F.plainAttrs_str F.slot_str_join F.type_str_join GM.noRef ?_
 refine callWith_of (P := fun ι => True) rfl (fun ι ι => ⟨.machine, .inr (.inl rfl), .now⟩) (evalArgs_gen rfl rfl ?_)
 refine wpAny_items_cons (gexp_ok (s := { s with toks := s.toks + 1 }) L hQ J G gj tj hk kd hcode hgl hns hm hl hap hit hh hd hu fun h4 h5 tk5 gs ga more k4 gx tx hlt hbare hga hs5 k5 W hst => ?_)
 refine wpAny_items_nil (wpAny_evalAll_nil ⟨trivial, ?_⟩)
 have hn : (passing (fun ι => true) us.size 0).length = ys.length := by rw [passing_all, List.length_range, hlen]
 refine SC.joinGen (x := s_space) W.in4_2 (fun i s hs => ?_) hst ?_ (.head _) ?_ (fun s' l mv io => ?_) (by rw [hn, hlen, sizeLine_eq]; exact le_c ‹_› rfl)
 · obtain ⟨⟨o, _, _, h1, h2, _⟩, _⟩ := hs
   exact ⟨o, h1, h2⟩
 · intro b hb
   show b < h5.objs.size
   rw [hs5]
   rcases List.mem_cons.mp hb with rfl | hb
   · exact Nat.lt_succ_self _
   · rcases List.mem_cons.mp hb with rfl | hb
     · exact Nat.lt_succ_of_lt hga
     · exact Nat.lt_succ_of_lt (Nat.lt_trans (List.mem_range.mp hb) hga)
 · rintro i v ⟨_, _, z, t, _, e⟩
   exact ⟨z, t, e⟩
 · rw [hn] at io
   have io2 : ItemsOf (fun j y => ∃ i, (List.range ys.length)[j]? = some i /\ ∃ z t, ys[i]? = some z /\ y = Value.str z t) (strValues l).toArray ys.length := by
    rw [passing_all, <- hlen] at io; exact io
   obtain ⟨j1, j2⟩ := join_small sm
   rw [texts_of io2]
   refine ⟨j1, fun t' k => ?_⟩
   rw [j2]
   have kk : ∀ b o, b < s.heap.objs.size -> h4.get? b = some o -> s'.heap.get? b = some o := fun b o lt e => mv.heap b o (by
    simp only [List.mem_cons, List.not_mem_nil, or_false, not_or]
    exact ⟨Nat.ne_of_lt (Nat.lt_trans lt hlt), Nat.ne_of_lt lt⟩) (k5 b o e)
   refine q { s' with toks := k } t' (fun b o nb e => kk b o (Heap.lt_size e) (k4 b o nb e)) ⟨more, kk PJ _ hpj gx, tx⟩ mv.os fun hb => ?_
   exact GenOnlyQ.bare mv.gens fun y hy => by
    rcases Array.mem_push.mp hy with hy | rfl
    · exact hb y hy
    · exact hbare
theorem jn_ok (hT : TOk K TT) (L : Lo K) (hQ : QuOk K prog w) (J : JnK K) : JnOk K prog w := by
 intro σ σ' ρ vs us v A s h R V fa hr Q q
 refine one_vr (show bnd (oneV vs) _ = some (v, σ', true) from h) V fun w u V h => ref_vr h V fun i a ha h => bnd_el h fun l hi h => bnd_el h fun xs h1 h => bnd_el h fun ys h2 h => chk_el h fun fl h => chk_el h fun sm h => ?_
 obtain ⟨rfl, rfl⟩ := ok_some h
 have fl := fit_ok fl
 have hi := lsO_inv hi
 obtain ⟨vs, c, g, W⟩ := (R.ob i a _ ha hi).out
 obtain ⟨e1, e2⟩ := items_ok h1 h2 W
 obtain ⟨ps, gj, tj⟩ := R.jt
 have hap : a ≠ PJ := R.npj ha hi rfl
 have hal := R.lo i a _ ha hi rfl
 have F := hT.fn 908 [fn908] fn908 (by kernel_rfl!) (.head _)
 obtain ⟨oc, od, sl, ho⟩ := F.at_
 cases F.ki with
 | dict z k1 => cases k1
 | cell z k1 k2 => cases k2
 | plain k1 k2 k3 k4 k5 =>
 have hbd := k5 s [.ref a] [] R.gd.kin rfl rfl
 refine codeAny_call_def (fd := fn908.fd) (body := b908) (binds := bindsV [.ref a] [] fn908.binds) (by have := hr.1; exact rm_0 ‹_›) (R.gd.kin _ _ ho) rfl R.gd.lim (codeRec_of R.gd.kin F.code) (by rw [F.body, body908]) hbd k3 (fun z hz => ?_) (fun h₀ hns hk => ?_) F.co F.ge F.kd
 · obtain ⟨p, hp, rfl⟩ := List.mem_map.mp hz
   exact k4 p hp
 · have hlen : ys.length = (⟨vs⟩ : Array Value).size := e1
   have hsz : (⟨vs⟩ : Array Value).size <= 10001 := by
    show vs.length <= _
    rw [W.length]; exact le_c ‹_› rfl
   refine join_body (s := { s with heap := h₀, toks := s.toks + (bindsV [.ref a] [] fn908.binds).length }) (env := callEnv fn908.fd s.heap.objs.size 908) (us := ⟨vs⟩) (ys := ys) L hQ J (R.gd.keeps L fun b o ι ι e => hk b o e) (hk _ _ gj) tj rfl F.kd code908 F.gl hns rfl ⟨_, hk _ _ g, rfl, c, rfl⟩ hap hal (fun j v hj => e2 j v (by simpa using hj)) hlen hsz sm hr.2.2 ?_ ?_ fun s' t' k1' ⟨more, k2', k3'⟩ k4' k5' => ?_
   · have := hr.1
     show A.depth + 1 + 20 < _
     exact rm_2 ‹_› rfl
   · have := hr.2.1
     show A.units + 3 + 120 < _
     exact rm_2 ‹_› rfl
   · obtain ⟨R', X'⟩ := R.table L (h' := s'.heap) (more := more) (fun b o nb e => k1' b o nb (hk b o e)) gj k2' k3'
     exact q ρ s' _ R' X' ⟨k4', k5'⟩ ⟨_, rfl, t', rfl⟩
end
end
section
set_option maxRecDepth 100000
noncomputable def dropPJ : List (Addr × Obj) -> List (Addr × Obj)
 | [] => []
 | p :: l => match Nat.beq p.1 903 with | true => dropPJ l | false => p :: dropPJ l
theorem dropPJ_lookup {a : Addr} : ∀ {l : List (Addr × Obj)} {o : Obj}, (dropPJ l).lookup a = some o -> l.lookup a = some o /\ a ≠ 903
 | [], o, h => by cases h
 | p :: l, o, h => by
  obtain ⟨b, q⟩ := p
  unfold dropPJ at h
  cases hb : Nat.beq b 903 with
  | true =>
   rw [hb] at h
   obtain ⟨h1, h2⟩ := dropPJ_lookup (l := l) h
   refine ⟨?_, h2⟩
   rw [List.lookup_cons]
   have : (a == b) = false := beq_eq_false_iff_ne.mpr fun e => h2 (e.trans (Nat.eq_of_beq_eq_true hb))
   rw [this]; exact h1
  | false =>
   rw [hb] at h
   rw [List.lookup_cons] at h ⊢
   by_cases e : a = b
   · subst e
     rw [show (a == a) = true from beq_self_eq_true a] at h ⊢
     exact ⟨h, Nat.ne_of_beq_eq_false hb⟩
   · rw [show (a == b) = false from beq_eq_false_iff_ne.mpr e] at h ⊢
     exact dropPJ_lookup (l := l) h
noncomputable def KJ (P : Params) : Frag := dropPJ (kk.heap_1 P)
theorem lo_KJ (P : Params) : Lo (KJ P) := ⟨by
 cases e : (KJ P).lookup PJ with
 | none => rfl
 | some o => exact absurd rfl (dropPJ_lookup e).2⟩
theorem lexFacts (P : Params) : LexFacts (KJ P) := ⟨by kernel_rfl!, by kernel_rfl!, by kernel_rfl!, by kernel_rfl!, by kernel_rfl!, by kernel_rfl!⟩
theorem mk190 (P : Params) {prog : Program} {w : World} : MkOk (KJ P) prog w 190 82 := mk_plain (by kernel_rfl!) (by kernel_rfl!) (by kernel_rfl!)
theorem mk889 (P : Params) {prog : Program} {w : World} : MkOk (KJ P) prog w 889 813 := mk_plain (by kernel_rfl!) (by kernel_rfl!) (by kernel_rfl!)
theorem keeps_cls (P : Params) : keepIn (KJ P) (.ref 190) = true /\ keepIn (KJ P) (.ref 889) = true /\ keepIn (KJ P) (.ref 754) = true := ⟨by kernel_rfl!, by kernel_rfl!, by kernel_rfl!⟩
theorem cls190 (P : Params) : ClsOk (KJ P) 190 := ⟨by kernel_rfl!, by kernel_rfl!, by kernel_rfl!, by kernel_rfl!, by kernel_rfl!, by kernel_rfl!⟩
theorem cls889 (P : Params) : ClsOk (KJ P) 889 := ⟨by kernel_rfl!, by kernel_rfl!, by kernel_rfl!, by kernel_rfl!, by kernel_rfl!, by kernel_rfl!⟩
theorem cls754 (P : Params) : ClsOk (KJ P) 754 := ⟨by kernel_rfl!, by kernel_rfl!, by kernel_rfl!, by kernel_rfl!, by kernel_rfl!, by kernel_rfl!⟩
noncomputable def notCell : NameKind -> Bool
 | .cell => false
 | _ => true
noncomputable def isLocal : Option NameKind -> Bool
 | some .local => true
 | _ => false
noncomputable def isFnKind : ScopeKind -> Bool
 | .function => true
 | _ => false
noncomputable def nodupS : List Str -> Bool
 | [] => true
 | x :: r => match memS x r with | true => false | false => nodupS r
theorem nodupS_ok : ∀ {l : List Str}, nodupS l = true -> l.Nodup
 | [], _ => List.nodup_nil
 | x :: r, h => by
  unfold nodupS at h
  cases q : memS x r with
  | true => rw [q] at h; cases h
  | false =>
   rw [q] at h
   refine List.nodup_cons.mpr ⟨fun m => ?_, nodupS_ok h⟩
   rw [<- memS_any] at q
   rw [show (r.any fun y => y == x) = true from List.any_eq_true.mpr ⟨x, m, beq_self_eq_true x⟩] at q; cases q
noncomputable def scopeOk (sc : Scope) (b : List (Str × Src)) : Bool := isFnKind sc.kind && !sc.isCoroutine && !sc.isGenerator && nodupS (b.map (·.1))
noncomputable def plainOk (sc : Scope) (b : List (Str × Src)) : Bool := sc.names.all (fun x => notCell x.2) && b.all (fun p => isLocal (look p.1 sc.names))
theorem isLocal_ok {x : Option NameKind} (h : isLocal x = true) : x = some .local := by
 cases x with
 | none => cases h
 | some k => cases k <;> first | rfl | cases h
theorem plainOk_ok {sc : Scope} {b : List (Str × Src)} (h : plainOk sc b = true) : (∀ x ∈ sc.names, x.2 ≠ .cell) /\ ∀ p ∈ b, sc.names.lookup p.1 = some .local := by
 unfold plainOk at h
 simp only [Bool.and_eq_true, List.all_eq_true] at h
 refine ⟨fun x hx hc => ?_, fun p hp => ?_⟩
 · have := h.1 x hx; rw [hc] at this; cases this
 · rw [<- look_eq]; exact isLocal_ok (h.2 p hp)
theorem fnOk_of {K : Frag} {f : Addr} {fn : Fn} {oc : Value} {od : Option Addr} {sl : Array (Option Value)} (h1 : K.lookup f = some ⟨oc, od, .func fn.fd, sl⟩) (h2 : fn.fd.body = .stmts fn.body) (h3 : codeIn K fn.fd.code fn.fd.qualname = true)
 (h4 : fn.fd.globals = mainGlobals) (h5 : fn.fd.builtins = builtinsNs) (h6 : scopeOk fn.fd.scope fn.binds = true) (ki : FnKind K fn) : FnOk K f fn := by
 unfold scopeOk at h6
 simp only [Bool.and_eq_true, Bool.not_eq_true'] at h6
 obtain ⟨⟨⟨a, b⟩, c⟩, g⟩ := h6
 refine ⟨⟨oc, od, sl, h1⟩, h2, h3, h4, h5, ?_, b, c, nodupS_ok g, ki⟩
 cases q : fn.fd.scope.kind <;> rw [q] at a <;> first | rfl | cases a
theorem fnOk_k {K : Frag} {f : Addr} {fn : Fn} (ki : FnKind K fn) (h : (K.lookup f, fn.fd.body, codeIn K fn.fd.code fn.fd.qualname, fn.fd.globals, fn.fd.builtins, scopeOk fn.fd.scope fn.binds) = (some ⟨.type "function", none, .func fn.fd, #[]⟩, .stmts fn.body, true, mainGlobals, builtinsNs, true)) : FnOk K f fn :=
 have h1 := congrArg Prod.snd h
 have h2 := congrArg Prod.snd h1
 have h3 := congrArg Prod.snd h2
 have h4 := congrArg Prod.snd h3
 fnOk_of (congrArg Prod.fst h) (congrArg Prod.fst h1) (congrArg Prod.fst h2) (congrArg Prod.fst h3) (congrArg Prod.fst h4) (congrArg Prod.snd h4) ki
theorem plain_of {K : Frag} {fn : Fn} (k1 : fn.kwd = none) (k2 : fn.cel = none) (h : plainOk fn.fd.scope fn.binds = true)
 (bd : ∀ (s : Shared) (vs : List Value) (ks : List (Str × Value)), K.In s.heap -> vs.length = fn.npos -> ks.map (·.1) = fn.kws -> BindsTo s fn.fd ⟨vs, ks⟩ (bindsV vs ks fn.binds)) : FnKind K fn :=
 .plain k1 k2 (plainOk_ok h).1 (plainOk_ok h).2 bd
theorem ls1 {α : Type} {P : List α -> Prop} {vs : List α} (h : vs.length = 1) (k : ∀ a, P [a]) : P vs := by
 cases vs with
 | nil => exact Nat.noConfusion h
 | cons a l => cases l with
  | nil => exact k a
  | cons => exact Nat.noConfusion (Nat.succ.inj h)
theorem lsS {α : Type} {P : List α -> Prop} {n : Nat} {vs : List α} (h : vs.length = n + 1) (k : ∀ a l, l.length = n -> P (a :: l)) : P vs := by
 cases vs with
 | nil => exact Nat.noConfusion h
 | cons a l => exact k a l (Nat.succ.inj h)
theorem ls2 {α : Type} {P : List α -> Prop} {vs : List α} (h : vs.length = 2) (k : ∀ a b, P [a, b]) : P vs := lsS h fun a l h => ls1 (P := fun l => P (a :: l)) h (k a)
theorem ls3 {α : Type} {P : List α -> Prop} {vs : List α} (h : vs.length = 3) (k : ∀ a b c, P [a, b, c]) : P vs := lsS h fun a l h => ls2 (P := fun l => P (a :: l)) h (k a)
theorem ks0 {P : List (Str × Value) -> Prop} {ks : List (Str × Value)} (h : ks.map (·.1) = []) (k : P []) : P ks := by
 cases ks with
 | nil => exact k
 | cons => cases h
theorem ks1 {P : List (Str × Value) -> Prop} {x : Str} {ks : List (Str × Value)} (h : ks.map (·.1) = [x]) (k : ∀ z, P [(x, z)]) : P ks := by
 cases ks with
 | nil => cases h
 | cons p l =>
  have h1 : p.1 = x := (List.cons.inj h).1
  subst h1
  exact ks0 (P := fun l => P (p :: l)) (List.cons.inj h).2 (k p.2)
theorem bnd1 {s : Shared} {fd : FuncData} {B : List (Str × Src)} {vs : List Value} {ks : List (Str × Value)} (hv : vs.length = 1) (hk : ks.map (·.1) = []) (k : ∀ a, BindsTo s fd ⟨[a], []⟩ (bindsV [a] [] B)) : BindsTo s fd ⟨vs, ks⟩ (bindsV vs ks B) :=
 ks0 (P := fun ks => BindsTo s fd ⟨vs, ks⟩ (bindsV vs ks B)) hk (ls1 (P := fun vs => BindsTo s fd ⟨vs, []⟩ (bindsV vs [] B)) hv k)
theorem bnd2 {s : Shared} {fd : FuncData} {B : List (Str × Src)} {vs : List Value} {ks : List (Str × Value)} (hv : vs.length = 2) (hk : ks.map (·.1) = []) (k : ∀ a b, BindsTo s fd ⟨[a, b], []⟩ (bindsV [a, b] [] B)) : BindsTo s fd ⟨vs, ks⟩ (bindsV vs ks B) :=
 ks0 (P := fun ks => BindsTo s fd ⟨vs, ks⟩ (bindsV vs ks B)) hk (ls2 (P := fun vs => BindsTo s fd ⟨vs, []⟩ (bindsV vs [] B)) hv k)
theorem bnd3 {s : Shared} {fd : FuncData} {B : List (Str × Src)} {vs : List Value} {ks : List (Str × Value)} (hv : vs.length = 3) (hk : ks.map (·.1) = []) (k : ∀ a b c, BindsTo s fd ⟨[a, b, c], []⟩ (bindsV [a, b, c] [] B)) : BindsTo s fd ⟨vs, ks⟩ (bindsV vs ks B) :=
 ks0 (P := fun ks => BindsTo s fd ⟨vs, ks⟩ (bindsV vs ks B)) hk (ls3 (P := fun vs => BindsTo s fd ⟨vs, []⟩ (bindsV vs [] B)) hv k)
theorem bnd2k {s : Shared} {fd : FuncData} {B : List (Str × Src)} {x : Str} {vs : List Value} {ks : List (Str × Value)} (hv : vs.length = 2) (hk : ks.map (·.1) = [x]) (k : ∀ a b z, BindsTo s fd ⟨[a, b], [(x, z)]⟩ (bindsV [a, b] [(x, z)] B)) : BindsTo s fd ⟨vs, ks⟩ (bindsV vs ks B) :=
 ks1 (P := fun ks => BindsTo s fd ⟨vs, ks⟩ (bindsV vs ks B)) hk fun z => ls2 (P := fun vs => BindsTo s fd ⟨vs, [(x, z)]⟩ (bindsV vs [(x, z)] B)) hv fun a b => k a b z
theorem fok103 (P : Params) : FnOk (KJ P) 103 fn103 := fnOk_k (plain_of rfl rfl (by kernel_rfl!) fun s vs ks X hv hk => bnd3 hv hk fun a b c => BindsTo.of_eq (by kernel_rfl!)) (by kernel_rfl!)
theorem fok154 (P : Params) : FnOk (KJ P) 154 fn154 := fnOk_k (plain_of rfl rfl (by kernel_rfl!) fun s vs ks X hv hk => bnd1 hv hk fun a => BindsTo.of_eq (by kernel_rfl!)) (by kernel_rfl!)
theorem fok201 (P : Params) : FnOk (KJ P) 201 fn201 := fnOk_k (plain_of rfl rfl (by kernel_rfl!) fun s vs ks X hv hk => bnd2 hv hk fun a b => BindsTo.of_eq (by kernel_rfl!)) (by kernel_rfl!)
theorem fok220 (P : Params) : FnOk (KJ P) 220 fn220 := fnOk_k (plain_of rfl rfl (by kernel_rfl!) fun s vs ks X hv hk => bnd2 hv hk fun a b => BindsTo.of_eq (by kernel_rfl!)) (by kernel_rfl!)
theorem fok531 (P : Params) : FnOk (KJ P) 531 fn531 := fnOk_k (plain_of rfl rfl (by kernel_rfl!) fun s vs ks X hv hk => bnd2 hv hk fun a b => BindsTo.of_eq (by kernel_rfl!)) (by kernel_rfl!)
theorem fok538 (P : Params) : FnOk (KJ P) 538 fn538 := fnOk_k (plain_of rfl rfl (by kernel_rfl!) fun s vs ks X hv hk => bnd1 hv hk fun a => BindsTo.of_eq (by kernel_rfl!)) (by kernel_rfl!)
theorem fok820 (P : Params) : FnOk (KJ P) 820 fn820 := fnOk_k (plain_of rfl rfl (by kernel_rfl!) fun s vs ks X hv hk => bnd1 hv hk fun a => BindsTo.of_eq (by kernel_rfl!)) (by kernel_rfl!)
theorem fok850 (P : Params) : FnOk (KJ P) 850 fn850 := fnOk_k (plain_of rfl rfl (by kernel_rfl!) fun s vs ks X hv hk => bnd1 hv hk fun a => BindsTo.of_eq (by kernel_rfl!)) (by kernel_rfl!)
theorem fok857 (P : Params) : FnOk (KJ P) 857 fn857 := fnOk_k (plain_of rfl rfl (by kernel_rfl!) fun s vs ks X hv hk => bnd1 hv hk fun a => BindsTo.of_eq (by kernel_rfl!)) (by kernel_rfl!)
theorem fok879 (P : Params) : FnOk (KJ P) 879 fn879 := fnOk_k (plain_of rfl rfl (by kernel_rfl!) fun s vs ks X hv hk => bnd1 hv hk fun a => BindsTo.of_eq (by kernel_rfl!)) (by kernel_rfl!)
theorem fok886 (P : Params) : FnOk (KJ P) 886 fn886 := fnOk_k (plain_of rfl rfl (by kernel_rfl!) fun s vs ks X hv hk => bnd1 hv hk fun a => BindsTo.of_eq (by kernel_rfl!)) (by kernel_rfl!)
theorem fok908 (P : Params) : FnOk (KJ P) 908 fn908 := fnOk_k (plain_of rfl rfl (by kernel_rfl!) fun s vs ks X hv hk => bnd1 hv hk fun a => BindsTo.of_eq (by kernel_rfl!)) (by kernel_rfl!)
theorem fok916 (P : Params) : FnOk (KJ P) 916 fn916 := fnOk_k (plain_of rfl rfl (by kernel_rfl!) fun s vs ks X hv hk => bnd1 hv hk fun a => BindsTo.of_eq (by kernel_rfl!)) (by kernel_rfl!)
theorem fok923 (P : Params) : FnOk (KJ P) 923 fn923 := fnOk_k (plain_of rfl rfl (by kernel_rfl!) fun s vs ks X hv hk => bnd1 hv hk fun a => BindsTo.of_eq (by kernel_rfl!)) (by kernel_rfl!)
theorem fok930 (P : Params) : FnOk (KJ P) 930 fn930 := fnOk_k (plain_of rfl rfl (by kernel_rfl!) fun s vs ks X hv hk => bnd2 hv hk fun a b => BindsTo.of_eq (by kernel_rfl!)) (by kernel_rfl!)
theorem fok937 (P : Params) : FnOk (KJ P) 937 fn937 := fnOk_k (plain_of rfl rfl (by kernel_rfl!) fun s vs ks X hv hk => bnd2 hv hk fun a b => BindsTo.of_eq (by kernel_rfl!)) (by kernel_rfl!)
theorem fok947 (P : Params) : FnOk (KJ P) 947 fn947 := fnOk_k (plain_of rfl rfl (by kernel_rfl!) fun s vs ks X hv hk => bnd1 hv hk fun a => BindsTo.of_eq (by kernel_rfl!)) (by kernel_rfl!)
theorem fok82 (P : Params) : FnOk (KJ P) 82 fn82 := fnOk_k (plain_of rfl rfl (by kernel_rfl!) fun s vs ks X hv hk => bnd2 hv hk fun a b => binds_K (K := KJ P) (T := 75) (o := ⟨.type "tuple", none, .seq #[.none] 0, #[]⟩) X (by kernel_rfl!) (by kernel_rfl!) rfl (by with_unfolding_all rfl) (by kernel_rfl!)) (by kernel_rfl!)
theorem fok524 (P : Params) : FnOk (KJ P) 524 fn524 := fnOk_k (plain_of rfl rfl (by kernel_rfl!) fun s vs ks X hv hk => bnd2 hv hk fun a b => binds_K (K := KJ P) (T := 517) (o := ⟨.type "tuple", none, .seq #[.str (Zs "") 1032, .str (Zs "\n") 1033] 0, #[]⟩) X (by kernel_rfl!) (by kernel_rfl!) rfl (by with_unfolding_all rfl) (by kernel_rfl!)) (by kernel_rfl!)
theorem fok700 (P : Params) : FnOk (KJ P) 700 fn700 := fnOk_k (plain_of rfl rfl (by kernel_rfl!) fun s vs ks X hv hk => bnd2 hv hk fun a b => binds_K (K := KJ P) (T := 693) (o := ⟨.type "tuple", none, .seq #[.int (-1) 1225] 0, #[]⟩) X (by kernel_rfl!) (by kernel_rfl!) rfl (by with_unfolding_all rfl) (by kernel_rfl!)) (by kernel_rfl!)
theorem fok901 (P : Params) : FnOk (KJ P) 901 fn901 := fnOk_k (plain_of rfl rfl (by kernel_rfl!) fun s vs ks X hv hk => bnd1 hv hk fun a => binds_K (K := KJ P) (T := 894) (o := ⟨.type "tuple", none, .seq #[.bool false, .bool true] 0, #[]⟩) X (by kernel_rfl!) (by kernel_rfl!) rfl (by with_unfolding_all rfl) (by kernel_rfl!)) (by kernel_rfl!)
theorem fok89 (P : Params) : FnOk (KJ P) 89 fn89 := fnOk_k (plain_of rfl rfl (by kernel_rfl!) fun s vs ks X hv hk => bnd2k hv hk fun a b z => BindsTo.of_eq (by kernel_rfl!)) (by kernel_rfl!)
theorem fok813 (P : Params) : FnOk (KJ P) 813 fn813 := fnOk_k (plain_of rfl rfl (by kernel_rfl!) fun s vs ks X hv hk => bnd2k hv hk fun a b z => binds_K (K := KJ P) (T := 806) (o := ⟨.type "tuple", none, .seq #[.none, .none, .bool false, .bool false] 0, #[]⟩) X (by kernel_rfl!) (by kernel_rfl!) rfl (by with_unfolding_all rfl) (by kernel_rfl!)) (by kernel_rfl!)
noncomputable def cellLoc (sc : Scope) (x : Str) (b : List (Str × Src)) : Bool := b.all fun p => seq p.1 x || isLocal (look p.1 sc.names)
theorem cellLoc_ok {sc : Scope} {x : Str} {b : List (Str × Src)} (h : cellLoc sc x b = true) : ∀ p ∈ b, p.1 ≠ x -> sc.names.lookup p.1 = some .local := by
 intro p hp ne
 unfold cellLoc at h
 have := List.all_eq_true.mp h p hp
 rw [seq_false.mpr ne, Bool.false_or] at this
 rw [<- look_eq]; exact isLocal_ok this
theorem fok108 (P : Params) : FnOk (KJ P) 108 fn108 := fnOk_k (.cell (Zs "name") rfl rfl (fun k => by kernel_rfl!) (cellLoc_ok (by kernel_rfl!)) (by kernel_rfl!) (by kernel_rfl!) rfl fun vs hv => ls2 (P := fun vs => bindArgs fn108.fd ⟨vs, []⟩ = pure (bindsV vs [] fn108.binds)) hv fun a b => by kernel_rfl!) (by kernel_rfl!)
theorem fok942 (P : Params) : FnOk (KJ P) 942 fn942 := fnOk_k (.cell (Zs "rows") rfl rfl (fun k => by kernel_rfl!) (cellLoc_ok (by kernel_rfl!)) (by kernel_rfl!) (by kernel_rfl!) rfl fun vs hv => ls2 (P := fun vs => bindArgs fn942.fd ⟨vs, []⟩ = pure (bindsV vs [] fn942.binds)) hv fun a b => by kernel_rfl!) (by kernel_rfl!)
theorem bind187 (a b c : Value) : bindArgs fn187.fd ⟨[a, b, c], []⟩ = (newDict >>= fun d => pure (bindsV [a, b, c] [] fn187.binds ++ [(Zs "_params", d)])) := by kernel_rfl!
theorem fok187 (P : Params) : FnOk (KJ P) 187 fn187 := fnOk_k (.dict (Zs "_params") rfl rfl (plainOk_ok (show plainOk fn187.fd.scope fn187.binds = true by kernel_rfl!)).1 (plainOk_ok (show plainOk fn187.fd.scope fn187.binds = true by kernel_rfl!)).2 (by kernel_rfl!) (by kernel_rfl!) fun s vs ks X hv hk => ks0 (P := fun ks => BindsD s fn187.fd ⟨vs, ks⟩ (Zs "_params") (bindsV vs ks fn187.binds)) hk (ls3 (P := fun vs => BindsD s fn187.fd ⟨vs, []⟩ (Zs "_params") (bindsV vs [] fn187.binds)) hv fun a b c => by
 intro M A E Q h
 rw [bind187]
 refine wpAny_bind ?_
 show wpAny M A (newObj (.type "dict") (.dict #[])) _ _ _
 exact wpAny_newObj_type (wpAny_pure h) (by size_fits))) (by kernel_rfl!)
theorem all_nil {α : Type} {P : α -> Prop} : ∀ q ∈ [], P q := fun ι m => nomatch m
theorem all_cons {α : Type} {P : α -> Prop} {a : α} {l : List α} (h : P a) (t : ∀ q ∈ l, P q) : ∀ q ∈ a :: l, P q := List.forall_mem_cons.2 ⟨h, t⟩
theorem all_one {α : Type} {P : α -> Prop} {a : α} (h : P a) : ∀ q ∈ [a], P q := all_cons h all_nil
theorem key_ok (P : Params) : ∀ q ∈ fnTab, ∀ fn ∈ q.2, FnOk (KJ P) q.1 fn :=
 all_cons (all_one (fok82 P)) <| all_cons (all_one (fok89 P)) <| all_cons (all_one (fok103 P)) <| all_cons (all_one (fok108 P)) <| all_cons (all_one (fok154 P)) <| all_cons (all_one (fok187 P)) <| all_cons (all_one (fok201 P)) <| all_cons (all_one (fok220 P)) <| all_cons (all_one (fok524 P)) <| all_cons (all_one (fok531 P)) <| all_cons (all_one (fok538 P)) <| all_cons (all_one (fok700 P)) <| all_cons (all_one (fok813 P)) <| all_cons (all_one (fok820 P)) <| all_cons (all_one (fok850 P)) <| all_cons (all_one (fok857 P)) <| all_cons (all_one (fok879 P)) <| all_cons (all_one (fok886 P)) <| all_cons (all_one (fok901 P)) <| all_cons (all_one (fok908 P)) <| all_cons (all_one (fok916 P)) <| all_cons (all_one (fok923 P)) <| all_cons (all_one (fok930 P)) <| all_cons (all_one (fok937 P)) <| all_cons (all_one (fok942 P)) <| all_cons (all_one (fok947 P)) <| all_nil
theorem fns_ok (P : Params) : ∀ f l fn, nlook f TT.fns = some l -> fn ∈ l -> FnOk (KJ P) f fn := by
 intro f l fn h hm
 have h := nlook_mem h
 exact key_ok P (f, l) h fn hm
theorem own_k {K : Frag} {C : Addr} {x : Str} (h : (findIn K (.ref C) x, noGet K none, takerIn K C x) = (some none, true, some none)) : AtOk K C x .own :=
 have h1 := congrArg Prod.snd h
 .own (congrArg Prod.fst h) (congrArg Prod.fst h1) (congrArg Prod.snd h1)
theorem meth_k {K : Frag} {C : Addr} {x : Str} {f : Addr} (h : (findIn K (.ref C) x, isFn K (.ref f), keepIn K (.ref f)) = (some (some (.ref f)), true, true)) : AtOk K C x (.meth f) :=
 have h1 := congrArg Prod.snd h
 .meth (congrArg Prod.fst h) (congrArg Prod.fst h1) (congrArg Prod.snd h1)
noncomputable def at190 : List (Str × At) := [(Zs "_headers", .own), (Zs "_convert_string_type", .meth 89), (Zs "__setitem__", .meth 103), (Zs "__delitem__", .meth 108), (Zs "items", .meth 154), (Zs "add_header", .meth 187)]
theorem atOk190 (P : Params) : ∀ q ∈ at190, AtOk (KJ P) 190 q.1 q.2 :=
 all_cons (own_k (by kernel_rfl!)) <| all_cons (meth_k (by kernel_rfl!)) <| all_cons (meth_k (by kernel_rfl!)) <| all_cons (meth_k (by kernel_rfl!)) <| all_cons (meth_k (by kernel_rfl!)) <| all_cons (meth_k (by kernel_rfl!)) <| all_nil
noncomputable def at889 : List (Str × At) := [(Zs "instream", .own), (Zs "infile", .own), (Zs "posix", .own), (Zs "eof", .own), (Zs "commenters", .own), (Zs "wordchars", .own), (Zs "whitespace", .own), (Zs "whitespace_split", .own), (Zs "quotes", .own), (Zs "escape", .own), (Zs "escapedquotes", .own), (Zs "state", .own), (Zs "pushback", .own), (Zs "lineno", .own), (Zs "debug", .own), (Zs "token", .own), (Zs "filestack", .own), (Zs "source", .own), (Zs "_punctuation_chars", .own), (Zs "punctuation_chars", .prop 820), (Zs "get_token", .meth 850), (Zs "read_token", .meth 857)]
theorem atOk889 (P : Params) : ∀ q ∈ at889, AtOk (KJ P) 889 q.1 q.2 :=
 all_cons (own_k (by kernel_rfl!)) <| all_cons (own_k (by kernel_rfl!)) <| all_cons (own_k (by kernel_rfl!)) <| all_cons (own_k (by kernel_rfl!)) <| all_cons (own_k (by kernel_rfl!)) <| all_cons (own_k (by kernel_rfl!)) <| all_cons (own_k (by kernel_rfl!)) <| all_cons (own_k (by kernel_rfl!)) <| all_cons (own_k (by kernel_rfl!)) <| all_cons (own_k (by kernel_rfl!)) <| all_cons (own_k (by kernel_rfl!)) <| all_cons (own_k (by kernel_rfl!)) <| all_cons (own_k (by kernel_rfl!)) <| all_cons (own_k (by kernel_rfl!)) <| all_cons (own_k (by kernel_rfl!)) <| all_cons (own_k (by kernel_rfl!)) <| all_cons (own_k (by kernel_rfl!)) <| all_cons (own_k (by kernel_rfl!)) <| all_cons (own_k (by kernel_rfl!)) <| all_cons (.prop (p := 821) (rest := [.none, .none, .none, .str (Zs "punctuation_chars") 1397, .bool false]) (by kernel_rfl!) (by kernel_rfl!) (by kernel_rfl!) (by kernel_rfl!)) <| all_cons (meth_k (by kernel_rfl!)) <| all_cons (meth_k (by kernel_rfl!)) <| all_nil
noncomputable def at754 : List (Str × At) := [(Zs "_StringIO__newline", .own), (Zs "_StringIO__buf", .own), (Zs "_StringIO__pos", .own), (Zs "_StringIO__check", .meth 538), (Zs "_StringIO__translated", .meth 531), (Zs "read", .meth 700)]
theorem atOk754 (P : Params) : ∀ q ∈ at754, AtOk (KJ P) 754 q.1 q.2 :=
 all_cons (own_k (by kernel_rfl!)) <| all_cons (own_k (by kernel_rfl!)) <| all_cons (own_k (by kernel_rfl!)) <| all_cons (meth_k (by kernel_rfl!)) <| all_cons (meth_k (by kernel_rfl!)) <| all_cons (meth_k (by kernel_rfl!)) <| all_nil
theorem ats_ok (P : Params) : ∀ C l, nlook C TT.ats = some l -> ClsOk (KJ P) C /\ ∀ x k, look x l = some k -> AtOk (KJ P) C x k := by
 intro C l h
 have h := nlook_mem h
 have e : TT.ats = [(190, at190), (889, at889), (754, at754)] := rfl
 rw [e] at h
 simp only [List.mem_cons, List.not_mem_nil, or_false] at h
 rcases h with h | h | h <;> cases h
 · exact ⟨cls190 P, fun x k hx => atOk190 P (x, k) (look_mem hx)⟩
 · exact ⟨cls889 P, fun x k hx => atOk889 P (x, k) (look_mem hx)⟩
 · exact ⟨cls754 P, fun x k hx => atOk754 P (x, k) (look_mem hx)⟩
noncomputable def GlOk (K : Frag) (x : Str) (v : Value) : Prop := (nsIn K mainGlobals x = some (some v)) \/ (nsIn K mainGlobals x = some none /\ bootBuiltins x = some v /\ x ≠ ("__name__" : Str))
theorem gl_ok (P : Params) : ∀ q ∈ globTab, GlOk (KJ P) q.1 q.2 :=
 all_cons (.inl (by kernel_rfl!)) <| all_cons (.inl (by kernel_rfl!)) <| all_cons (.inl (by kernel_rfl!)) <| all_cons (.inl (by kernel_rfl!)) <| all_cons (.inl (by kernel_rfl!)) <| all_cons (.inl (by kernel_rfl!)) <| all_cons (.inl (by kernel_rfl!)) <| all_cons (.inl (by kernel_rfl!)) <| all_cons (.inl (by kernel_rfl!)) <| all_cons (.inl (by kernel_rfl!)) <| all_cons (.inl (by kernel_rfl!)) <| all_cons (.inl (by kernel_rfl!)) <| all_cons (.inl (by kernel_rfl!)) <| all_cons (.inl (by kernel_rfl!)) <| all_cons (.inl (by kernel_rfl!)) <| all_cons (.inl (by kernel_rfl!)) <| all_cons (.inr ⟨by kernel_rfl!, by kernel_rfl!, by decide⟩) <| all_cons (.inr ⟨by kernel_rfl!, by kernel_rfl!, by decide⟩) <| all_cons (.inr ⟨by kernel_rfl!, by kernel_rfl!, by decide⟩) <| all_cons (.inr ⟨by kernel_rfl!, by kernel_rfl!, by decide⟩) <| all_cons (.inr ⟨by kernel_rfl!, by kernel_rfl!, by decide⟩) <| all_cons (.inr ⟨by kernel_rfl!, by kernel_rfl!, by decide⟩) <| all_cons (.inr ⟨by kernel_rfl!, by kernel_rfl!, by decide⟩) <| all_cons (.inr ⟨by kernel_rfl!, by kernel_rfl!, by decide⟩) <| all_cons (.inr ⟨by kernel_rfl!, by kernel_rfl!, by decide⟩) <| all_cons (.inr ⟨by kernel_rfl!, by kernel_rfl!, by decide⟩) <| all_cons (.inr ⟨by kernel_rfl!, by kernel_rfl!, by decide⟩) <| all_cons (.inr ⟨by kernel_rfl!, by kernel_rfl!, by decide⟩) <| all_cons (.inr ⟨by kernel_rfl!, by kernel_rfl!, by decide⟩) <| all_nil
theorem tok (P : Params) : TOk (KJ P) TT := ⟨fun x v h => gl_ok P (x, v) (look_mem h), fns_ok P, ats_ok P⟩
end
section
open PySem.Builtin.Re
set_option maxRecDepth 100000
noncomputable def patChk (K : Frag) (a : Addr) : Option (Array Nat) := match K.lookup a with
 | some ⟨.type t, none, .fields fs, _⟩ => (match decide (t = "re.Pattern"), fs.getD 5 .none, Nat.beq (reRawNat (fs.getD 6 .none)) 0, Nat.beq (reRawNat (fs.getD 2 .none)) 0 with
  | true, .ref b, true, true => (match K.lookup b with
   | some ⟨_, _, .seq items _, _⟩ => some ((items.map reRawOf).map (·.toNat))
   | _ => none)
  | _, _, _, _ => none)
 | _ => none
set_option tactic.hygienic true in
theorem patChk_ok {K : Frag} {a : Addr} {c : Array Nat} (h : patChk K a = some c) : PatAt K a c /\ ∃ o, K.lookup a = some o /\ o.cls = .type "re.Pattern" /\ o.dict = none := by
 unfold patChk at h
 split at h
 · rename_i t fs sl e
   split at h
   · rename_i b e1 e2 e3 e4
     have e1 := of_decide_eq_true e1
     split at h
     · rename_i c1 c2 items m c3 e5
       cases h
       subst e1
       exact ⟨⟨⟨_, fs, b, _, items, m, e, rfl, rfl, e2, Nat.eq_of_beq_eq_true e3, Nat.eq_of_beq_eq_true e4, e5, rfl, rfl⟩⟩, _, e, rfl, rfl⟩
     · cases h
   · cases h
 · cases h
theorem pats (P : Params) : Pats (KJ P) := by
 have a := patChk_ok (K := KJ P) (a := 54) (c := cd54) (by kernel_rfl!)
 have b := patChk_ok (K := KJ P) (a := 59) (c := cd59) (by kernel_rfl!)
 have c := patChk_ok (K := KJ P) (a := 206) (c := cd206) (by kernel_rfl!)
 refine ⟨a.1, b.1, c.1, fun x hx => ?_, by kernel_rfl!⟩
 rcases hx with rfl | rfl | rfl
 · exact a.2
 · exact b.2
 · exact c.2
noncomputable def clsChk2 (K : Frag) (a : Addr) : Bool := match K.lookup a with
 | some ⟨.type t, _, .cls cd, _⟩ => decide (t = "type") && (!cd.abstract && !cd.hasDel)
 | _ => false
set_option tactic.hygienic true in
theorem clsChk2_ok {K : Frag} {a : Addr} (h : clsChk2 K a = true) : ∃ od cd sl, K.lookup a = some ⟨.type "type", od, .cls cd, sl⟩ /\ cd.abstract = false /\ cd.hasDel = false := by
 unfold clsChk2 at h
 split at h
 · rename_i t od cd sl e
   rw [Bool.and_eq_true, Bool.and_eq_true] at h
   have e1 := of_decide_eq_true h.1
   subst e1
   exact ⟨od, cd, sl, e, by simpa using h.2.1, by simpa using h.2.2⟩
 · cases h
noncomputable def refAt (K : Frag) (x : Str) : Addr := match nsIn K mainGlobals x with
 | some (some (.ref b)) => b
 | _ => 754
set_option tactic.hygienic true in
theorem refAt_ok {K : Frag} {x : Str} (h : refAt K x ≠ 754) : nsIn K mainGlobals x = some (some (.ref (refAt K x))) := by
 unfold refAt at h ⊢
 split at h
 · rename_i b e; rw [e]
 · exact absurd rfl h
theorem sioK (P : Params) (S : Setting) : SioK (KJ P) S where
 fn := ⟨.type "function", none, #[], by kernel_rfl!⟩
 code := by kernel_rfl!
 cls := by
  obtain ⟨od, cd, sl, e, a, b⟩ := clsChk2_ok (K := KJ P) (a := 754) (by kernel_rfl!)
  exact ⟨_, od, cd, sl, e, a, b⟩
 byt := by
  have ne : refAt (KJ P) (Zs "BytesIO") ≠ 754 := Nat.ne_of_beq_eq_false (by kernel_rfl!)
  obtain ⟨od, cd, sl, e, a, b⟩ := clsChk2_ok (K := KJ P) (a := refAt (KJ P) (Zs "BytesIO")) (by kernel_rfl!)
  exact ⟨_, refAt_ok ne, ne, od, cd, sl, e⟩
 str := by kernel_rfl!
 obj := ⟨by kernel_rfl!, by kernel_rfl!⟩
 c1 := fun v => by kernel_rfl!
 c2 := fun v => by kernel_rfl!
 mro := ⟨[.ref 754, .ref 277, .ref 250, .type "object"], by kernel_rfl!, rfl⟩
 mb := by kernel_rfl!
 rd := by kernel_rfl!
 fc := by kernel_rfl!
 rc := by kernel_rfl!
 n1 := by kernel_rfl!
 n2 := by kernel_rfl!
 n3 := by kernel_rfl!
 sub := by kernel_rfl!
 ini := by kernel_rfl!
 fun_ := by kernel_rfl!
 keep := by kernel_rfl!
 nm := by decide
end
section
set_option maxRecDepth 100000
noncomputable def jnChk (K : Frag) : Bool := match K.lookup 907 with
 | some ⟨.type t, _, .fields vs, _⟩ => (match decide (t = "code"), vs.getD 11 .none, vs[11]?, vs.getD 18 .none, vs.getD 7 .none, vs.getD 9 .none, vs.getD 10 .none with
  | true, .ref a, some (Value.ref b), .str _ _, .int _ _, .bool _, .int _ _ => Nat.beq a 903 && Nat.beq b 903
  | _, _, _, _, _, _, _ => false)
 | _ => false
set_option tactic.hygienic true in
theorem jnChk_ok {K : Frag} (h : jnChk K = true) : ∃ od sl vs file tf flags tg inF text tt, K.lookup 907 = some ⟨.type "code", od, .fields vs, sl⟩ /\ vs.getD 11 .none = .ref PJ /\ vs[11]? = some (.ref PJ) /\ vs.getD 18 .none = .str file tf /\ vs.getD 7 .none = .int flags tg /\ vs.getD 9 .none = .bool inF /\ vs.getD 10 .none = .int text tt := by
 unfold jnChk at h
 split at h
 · rename_i t od vs sl e
   split at h
   · rename_i a b file tf flags tg inF text tt e1 e2 e3 e4 e5 e6 e7
     rw [Bool.and_eq_true] at h
     have h1 := Nat.eq_of_beq_eq_true h.1
     have h2 := Nat.eq_of_beq_eq_true h.2
     have e1 := of_decide_eq_true e1
     subst e1; subst h1; subst h2
     exact ⟨od, sl, vs, file, tf, flags, tg, inF, text, tt, e, e2, e3, e4, e5, e6, e7⟩
   · cases h
 · cases h
theorem jnK (P : Params) : JnK (KJ P) where
 code := jnChk_ok (by kernel_rfl!)
 bi := by kernel_rfl!
 gq := by kernel_rfl!
 kq := by kernel_rfl!
theorem k909 (P : Params) {prog : Program} {w : World} : KpOk (KJ P) prog w := fun h X => ⟨.machine, .inr (.inl rfl), Looks.of_peek X (by kernel_rfl!)⟩
theorem hyp_TT (P : Params) {prog : Program} {w : World} (hw : w.params = P) : Hyp3 (KJ P) prog w TT := by
 have fu : FuOk (KJ P) prog w := fu_ok (pats P) (k909 P)
 refine ⟨⟨fun ι => rd_ok (tok P) (lo_KJ P) (lexFacts P) fu, pats_ok (pats P), srs_ok (pats P)⟩, ⟨fun C f e => ?_, fun C f e => ?_⟩, sort_ok (lo_KJ P), deq_ok (lo_KJ P), fun f l fn e m => keep_fn ((tok P).fn f l fn e m), ⟨fu.1, fu.2⟩⟩
 · have m := nlook_mem e
   simp only [TT, clsTab, List.mem_cons, List.not_mem_nil, or_false, Prod.mk.injEq] at m
   rcases m with ⟨rfl, rfl⟩ | ⟨rfl, rfl⟩ | ⟨rfl, rfl⟩
   · have h := @mk190 P prog w
     exact @h
   · have h := @mk889 P prog w
     exact @h
   · have h := @mk754 (KJ P) prog w (lo_KJ P) (sioK P _)
     exact @h
 · have m := nlook_mem e
   simp only [TT, clsTab, List.mem_cons, List.not_mem_nil, or_false, Prod.mk.injEq] at m
   rcases m with ⟨rfl, rfl⟩ | ⟨rfl, rfl⟩ | ⟨rfl, rfl⟩
   · exact (keeps_cls P).1
   · exact (keeps_cls P).2.1
   · exact (keeps_cls P).2.2
noncomputable def orS {α : Type} (x y : Rs α) : Rs α := match x with
 | some p => some p
 | none => y
noncomputable def orR (z r : Rec) : Rec := ⟨fun c e σ => orS (z.ev c e σ) (r.ev c e σ), fun c e σ => orS (z.tr c e σ) (r.tr c e σ), fun c s σ => orS (z.ex c s σ) (r.ex c s σ), fun f vs ks σ => orS (z.call f vs ks σ) (r.call f vs ks σ)⟩
noncomputable def up (z : Rec) : Nat -> Rec
 | 0 => z
 | n + 1 => orR z (step TT (up z n))
inductive Nm where
 | a | A | b | B | c | C
inductive Kd where
 | a | b | c
inductive Vl where
 | e | i | x
noncomputable abbrev S (s : String) : Str := Str.ofString s
noncomputable def Nm.s : Nm -> Str
 | .a => S "a" | .A => S "A" | .b => S "b" | .B => S "B" | .c => S "c" | .C => S "C"
noncomputable def Nm.k : Nm -> Kd
 | .a => .a | .A => .a | .b => .b | .B => .b | .c => .c | .C => .c
noncomputable def Kd.s : Kd -> Str
 | .a => S "a" | .b => S "b" | .c => S "c"
noncomputable def Vl.s : Vl -> Str
 | .e => S "" | .i => S "it's" | .x => S "x y"
noncomputable abbrev Row := Nm × Vl
noncomputable def rp (r : Row) : PyData := .tuple [.str r.1.s, .str r.2.s]
noncomputable def rps : List Row -> List PyData
 | [] => []
 | r :: l => rp r :: rps l
noncomputable def keq : Kd -> Kd -> Bool
 | .a, .a => true | .b, .b => true | .c, .c => true | _, _ => false
noncomputable def keepK (k : Kd) : List Row -> List Row
 | [] => []
 | r :: l => match keq r.1.k k with | true => keepK k l | false => r :: keepK k l
noncomputable def nmOf (x : Str) : Option Nm := pk (seq x (S "a")) (some .a) (pk (seq x (S "A")) (some .A) (pk (seq x (S "b")) (some .b) (pk (seq x (S "B")) (some .B) (pk (seq x (S "c")) (some .c) (pk (seq x (S "C")) (some .C) none)))))
noncomputable def vlOf (x : Str) : Option Vl := pk (seq x (S "")) (some .e) (pk (seq x (S "it's")) (some .i) (pk (seq x (S "x y")) (some .x) none))
noncomputable def row2 : List PyData -> Option Row
 | [] => none
 | a :: l => bnd (strP a) fun n => (match l with
  | [] => none
  | b :: r => bnd (strP b) fun v => bnd (nmOf n) fun n => bnd (vlOf v) fun v => (match r with | [] => some (n, v) | _ :: _ => none))
noncomputable def rowOf : PyData -> Option Row
 | .tuple l => row2 l
 | _ => none
noncomputable def rowsOf : List PyData -> Option (List Row)
 | [] => some []
 | d :: l => bnd (rowOf d) fun r => bnd (rowsOf l) fun rs => some (r :: rs)
noncomputable def rowsD (l : List PyData) : List Row := (rowsOf l).getD []
noncomputable def okT (l : List PyData) : Bool := (rowsOf l).isSome && Nat.ble (len l) 5000
noncomputable def closedV (m : Nat) : AV -> Bool
 | .ref i => Nat.blt i m
 | _ => true
noncomputable def closedVs (m : Nat) : List AV -> Bool
 | [] => true
 | v :: l => closedV m v && closedVs m l
noncomputable def closedN (m : Nat) : List (Str × AV) -> Bool
 | [] => true
 | p :: l => closedV m p.2 && closedN m l
noncomputable def closedO (m : Nat) : AO -> Bool
 | .ns l => closedN m l
 | .inst _ d => Nat.blt d m
 | .dict l => closedN m l
 | .tuple l => closedVs m l
 | .cell v => closedV m v
 | _ => true
noncomputable def closedS (m : Nat) : St -> Bool
 | [] => true
 | o :: l => closedO m o && closedS m l
noncomputable def rfIs (i : Nat) : AV -> Bool
 | .ref j => Nat.beq j i
 | _ => false
noncomputable def hdIs : List (Str × AV) -> Bool
 | [] => false
 | p :: l => seq p.1 (S "_headers") && (rfIs 9 p.2 && (match l with | [] => true | _ :: _ => false))
noncomputable def tabAt (σ : St) : Option (List PyData) := bnd (lsO (nth σ 9)) fun l => bnd (dictOfA σ 10) fun d => bnd (instOf σ 11) fun q => pk (hdIs d && (Nat.beq q.1 190 && Nat.beq q.2 10)) (some l) none
noncomputable def is3 (n : Nat) : Bool := Nat.beq n 20 || (Nat.beq n 21 || Nat.beq n 29)
noncomputable def z108 (σ : St) (n : Str) : Rs AV := pk (is3 (len σ)) (bnd (nmOf n) fun n => bnd (tabAt σ) fun l => some (.none, setNth σ 9 (.list (rps (keepK n.k (rowsD l)))) ++ [.junk, .cell (.str n.k.s), .junk, .list (rps (keepK n.k (rowsD l))), .junk], closedS (len σ) (setNth σ 9 .junk) && okT l)) none
noncomputable def z1 : Rec := ⟨fun ι ι ι => none, fun ι ι ι => none, fun ι ι ι => none, fun f vs ks σ => pk (Nat.beq f 108 && isNil ks) (bnd (twoV vs) fun p => bnd (strV p.2) fun n => pk (rfIs 11 p.1) (z108 σ n) none) none⟩
inductive Op where
 | st | ad | de
noncomputable abbrev Dr := Op × Row
noncomputable def Op.j : Op -> Nat
 | .st => 0 | .ad => 1 | .de => 2
noncomputable def Nm.j : Nm -> Nat
 | .a => 0 | .A => 1 | .b => 2 | .B => 3 | .c => 4 | .C => 5
noncomputable def Vl.j : Vl -> Nat
 | .e => 0 | .i => 1 | .x => 2
noncomputable def code (d : Dr) : Nat := Nat.add d.1.j (Nat.add (Nat.mul 3 d.2.1.j) (Nat.mul 18 d.2.2.j))
noncomputable def stepT (d : Dr) (T : List Row) : List Row := match d.1 with
 | .st => keepK d.2.1.k T ++ [d.2]
 | .ad => T ++ [d.2]
 | .de => keepK d.2.1.k T
noncomputable def drOf (r : Nat) : Dr := (match Nat.mod r 3 with | 0 => .st | 1 => .ad | _ => .de, (match Nat.mod (Nat.div r 3) 6 with | 0 => .a | 1 => .A | 2 => .b | 3 => .B | 4 => .c | _ => .C, match Nat.div r 18 with | 0 => .e | 1 => .i | _ => .x))
noncomputable def junks : Nat -> St
 | 0 => []
 | n + 1 => .junk :: junks n
noncomputable def z930 (σ : St) (r : Int) : Rs AV := pk (Nat.beq (len σ) 17) (bnd (tabAt σ) fun l => bnd (natI r) fun r => some (.none, setNth σ 9 (.list (rps (stepT (drOf r) (rowsD l)))) ++ junks 11, closedS 17 (setNth σ 9 .junk) && (okT l && Nat.blt r 54))) none
noncomputable def z2 : Rec := ⟨fun ι ι ι => none, fun ι ι ι => none, fun ι ι ι => none, fun f vs ks σ => pk (Nat.beq f 930 && isNil ks) (bnd (twoV vs) fun p => bnd (intV p.2) fun r => pk (rfIs 11 p.1) (z930 σ r) none) none⟩
noncomputable def nmq : Nm -> Nm -> Bool
 | .a, .a => true | .A, .A => true | .b, .b => true | .B, .B => true | .c, .c => true | .C, .C => true | _, _ => false
noncomputable def vlq : Vl -> Vl -> Bool
 | .e, .e => true | .i, .i => true | .x, .x => true | _, _ => false
noncomputable def req (a b : Row) : Bool := match nmq a.1 b.1 with | true => vlq a.2 b.2 | false => false
noncomputable def remR (d : Row) : List Row -> Option (List Row)
 | [] => none
 | r :: l => match req r d with | true => some l | false => (match remR d l with | some k => some (r :: k) | none => none)
noncomputable def uldR : List Row -> List Row -> List Row -> List Row × List Row
 | [], A, M => (M, A)
 | r :: E, A, M => match remR r A with | some A' => uldR E A' M | none => uldR E A (M ++ [r])
noncomputable def uld (T T' : List Row) : List Row × List Row := uldR T.reverse T' []
noncomputable def z201 (σ : St) : Rs AV := pk (Nat.beq (len σ) 31) (bnd (lsO (nth σ 28)) fun l => bnd (lsO (nth σ 30)) fun k => some (.ref 33, setNth (setNth σ 28 (.list [])) 30 (.list (rps (uld (rowsD l) (rowsD k)).2)) ++ [.junk, .list (rps (uld (rowsD l) (rowsD k)).1), .tuple [.ref 32, .ref 30]], !calm σ && (okT l && (okT k && (Nat.ble (len l) 900 && Nat.ble (len k) 900))))) none
noncomputable def z3 : Rec := ⟨fun ι ι ι => none, fun ι ι ι => none, fun ι ι ι => none, fun f vs ks σ => pk (Nat.beq f 201 && isNil ks) (bnd (twoV vs) fun p => pk (rfIs 28 p.1 && rfIs 30 p.2) (z201 σ) none) none⟩
noncomputable def lineP (l : List PyData) : Option Str := bnd (strsOf l) fun xs => bnd (quots xs) fun ys => some (joinL s_space ys)
noncomputable def lineD (l : List PyData) : Str := (lineP l).getD ⟨⟨[]⟩⟩
noncomputable def okW (l : List PyData) : Bool := (lineP l).isSome && (fit l && small (lineD l))
noncomputable def z4 : Rec := ⟨fun ι ι ι => none, fun ι ι ι => none, fun ι ι ι => none, fun f vs ks σ => pk (Nat.beq f 908 && isNil ks) (bnd (oneV vs) fun v => bnd (refV v) fun i => bnd (lsO (nth σ i)) fun l => some (.str (lineD l), σ, okW l)) none⟩
noncomputable def flatR : List Row -> List PyData
 | [] => []
 | r :: l => .str r.1.s :: .str r.2.s :: flatR l
noncomputable def rowsK (k : Kd) : List Row -> List Row
 | [] => []
 | r :: l => match keq r.1.k k with | true => r :: rowsK k l | false => rowsK k l
noncomputable def wds : Option (Kd × List Row) -> List PyData
 | none => []
 | some p => .str p.1.s :: flatR p.2
noncomputable def zA : Rec := orR z1 (orR z2 (orR z3 z4))
noncomputable def loop1 : Stmt := (nth fn937.body 3).getD noStmt
noncomputable def forB : Stmt -> List Stmt
 | .For _ _ b _ _ => b
 | _ => []
noncomputable def forT : Stmt -> Expr
 | .For t _ _ _ _ => t
 | _ => .Constant .none 0 ⟨0, 0, 0, 0⟩
noncomputable def forIe : Stmt -> Expr
 | .For _ i _ _ _ => i
 | _ => .Constant .none 0 ⟨0, 0, 0, 0⟩
noncomputable def b1 (i : Nat) : Stmt := (nth (forB loop1) i).getD noStmt
noncomputable def ifA' : Stmt -> List Stmt
 | .If _ a _ _ => a
 | _ => []
noncomputable def inF : Stmt := (nth (ifA' (b1 4)) 2).getD noStmt
noncomputable def cx1 : Cx := ⟨8, fn937.fd.scope, []⟩
noncomputable def ns1 (r : AV) (before gone came words kind name value : AV) : AO := .ns [(S "rows", .ref 2), (S "draws", .ref 7), (S "table", .ref 11), (S "lines", .ref 13), (S "told", .ref 14), (S "r", r), (S "before", before), (S "gone", gone), (S "came", came), (S "words", words), (S "kind", kind), (S "name", name), (S "value", value)]
noncomputable def SndAll (B : Nat) (r : Rec) : Prop := ∀ (P : Params) {prog : Program} {w : World}, w.params = P -> Snd (KJ P) prog w B r
theorem orS_some {α : Type} {x y : Rs α} {p : α × St × Bool} (h : orS x y = some p) : x = some p \/ y = some p := by
 unfold orS at h
 split at h
 · cases h; exact .inl rfl
 · exact .inr h
theorem SndAll.or {B : Nat} {z r : Rec} (a : SndAll B z) (b : SndAll B r) : SndAll B (orR z r) := fun P ι ι hw =>
 ⟨fun h => (orS_some h).elim (fun h => (a P hw).ev h) fun h => (b P hw).ev h, fun h => (orS_some h).elim (fun h => (a P hw).tr h) fun h => (b P hw).tr h, fun h => (orS_some h).elim (fun h => (a P hw).ex h) fun h => (b P hw).ex h, fun h => (orS_some h).elim (fun h => (a P hw).call h) fun h => (b P hw).call h⟩
theorem SndAll.le {B B' : Nat} {r : Rec} (a : SndAll B r) (h : B <= B') : SndAll B' r := fun P ι ι hw =>
 ⟨fun e R E hr => (a P hw).ev e R E (hr.le h), fun e R E hr => (a P hw).tr e R E (hr.le h), fun e R E hr => (a P hw).ex e R E (hr.le h), fun e R V W f hr => (a P hw).call e R V W f (hr.le h)⟩
theorem SndAll.zero (B : Nat) : SndAll B rec0 := fun ι ι ι ι => snd0
theorem SndAll.step {B : Nat} {r : Rec} (hB : 60 <= B) (a : SndAll B r) : SndAll (B + 1) (step TT r) := fun P ι ι hw =>
 step_ok (tok P) (lo_KJ P) (hyp_TT P hw) (fun ι => jn_ok (tok P) (lo_KJ P) (qu_ok (tok P) (lo_KJ P) (pats P) (k909 P) (by kernel_rfl!)) (jnK P)) (lex_ok (tok P) (lo_KJ P) (lexFacts P) (a P hw)) (by lia) (fun ι => hB) (a P hw)
theorem SndAll.up {B : Nat} {z : Rec} (hB : 60 <= B) (a : SndAll B z) : ∀ n, SndAll (B + n) (up z n)
 | 0 => a
 | n + 1 => (a.le (by lia)).or (SndAll.step (Nat.le_trans hB (Nat.le_add_right B n)) (SndAll.up hB a n))
section
variable {K : Frag}
theorem Rl.pad {σ : St} {ρ : Rho} {h : Heap} (R : Rl K σ ρ h) : Rl K (σ ++ [.junk]) ⟨ρ.l ++ [PJ], ρ.F, ρ.X, ρ.fs⟩ h /\ Ex ρ h ⟨ρ.l ++ [PJ], ρ.F, ρ.X, ρ.fs⟩ h := by
 have u : Up ρ ⟨ρ.l ++ [PJ], ρ.F, ρ.X, ρ.fs⟩ := ⟨⟨[PJ], rfl⟩, .refl _⟩
 have old : ∀ {i a o}, nth (ρ.l ++ [PJ]) i = some a -> nth (σ ++ [.junk]) i = some o -> shut o = false -> nth ρ.l i = some a /\ nth σ i = some o := fun e f s => by
  rcases nth_append_inv f with f | ⟨_, rfl⟩
  · rcases nth_append_inv e with e | ⟨ei, _⟩
    · exact ⟨e, f⟩
    · have := nth_len f
      rw [ei, R.len] at this
      exact absurd this (Nat.lt_irrefl _)
  · cases s
 refine ⟨⟨R.gd, by simp [R.len], fun i j a o p e f g t s v => ?_, fun i a o e f s => ?_, fun i a o e f => ?_, R.fin, R.xin, fun i a o e f s => ?_, R.fx, R.jt, (fun i m => let ⟨l, e⟩ := R.fr i m; ⟨l, nth_append_left e⟩), R.pj⟩,
  ⟨⟨[PJ], rfl, fun a ha => by rw [List.mem_singleton] at ha; exact .inr (.inl ha)⟩, .refl _, rfl, rfl, fun b o e ι ι => e, fun vs e => ⟨#[], by simp [e]⟩⟩⟩
 · obtain ⟨e, g⟩ := old e g s
   obtain ⟨f, t⟩ := old f t v
   exact R.nd _ _ _ _ _ e f g t s v
 · obtain ⟨e, f⟩ := old e f s
   exact R.lo _ _ _ e f s
 · rcases nth_append_inv f with f | ⟨_, rfl⟩
   · rcases nth_append_inv e with e | ⟨ei, _⟩
     · exact (R.ob _ _ _ e f).move u fun ι e => e
     · have := nth_len f
       rw [ei, R.len] at this
       exact absurd this (Nat.lt_irrefl _)
   · exact .junk
 · obtain ⟨e, f⟩ := old e f s
   exact R.fz _ _ _ e f s
end
structure Wk (σ σ' : St) : Prop where
 of : ∀ {K : Frag} {ρ : Rho} {h : Heap}, Rl K σ ρ h -> ∃ ρ', Rl K σ' ρ' h /\ Ex ρ h ρ' h
theorem Wk.refl (σ : St) : Wk σ σ := ⟨fun R => ⟨_, R, .refl _ _⟩⟩
theorem Wk.trans {a b c : St} (x : Wk a b) (y : Wk b c) : Wk a c := ⟨fun R => by
 obtain ⟨ρ1, R1, X1⟩ := x.of R
 obtain ⟨ρ2, R2, X2⟩ := y.of R1
 exact ⟨ρ2, R2, X1.trans X2⟩⟩
theorem Wk.pad (σ : St) : Wk σ (σ ++ [.junk]) := ⟨fun R => ⟨_, R.pad⟩⟩
noncomputable def isNsO : AO -> Bool
 | .ns _ => true
 | _ => false
theorem Wk.drop {σ : St} {i : Nat} {o : AO} (h : nth σ i = some o) (hn : isNsO o = false) : Wk σ (setNth σ i .junk) := ⟨fun R =>
 ⟨_, R.drop (R.nofs h fun l e => by rw [e] at hn; cases hn), .refl _ _⟩⟩
theorem Wk.pads (σ : St) : ∀ n, Wk σ (σ ++ junks n)
 | 0 => by rw [show σ ++ junks 0 = σ from List.append_nil σ]; exact .refl _
 | n + 1 => by
  have := (Wk.pad σ).trans (Wk.pads (σ ++ [.junk]) n)
  rwa [List.append_assoc] at this
theorem setNth_mid {o : AO} {τ : St} (x : AO) : ∀ σ : St, setNth (σ ++ o :: τ) σ.length x = σ ++ x :: τ
 | [] => rfl
 | p :: σ => congrArg (p :: ·) (setNth_mid x σ)
theorem nth_mid {o : AO} {τ : St} : ∀ σ : St, nth (σ ++ o :: τ) σ.length = some o
 | [] => rfl
 | _ :: σ => nth_mid σ
noncomputable def noNs : St -> Bool
 | [] => true
 | o :: l => (match isNsO o with | true => false | false => noNs l)
set_option tactic.hygienic true in
theorem Wk.forget : ∀ (τ σ : St), noNs τ = true -> Wk (σ ++ τ) (σ ++ junks τ.length)
 | [], σ, _ => .refl _
 | o :: τ, σ, h => by
  unfold noNs at h
  split at h
  · cases h
  · rename_i hn
    have a := Wk.drop (nth_mid (o := o) (τ := τ) σ) hn
    rw [setNth_mid] at a
    have b := Wk.forget τ (σ ++ [.junk]) h
    rw [List.append_assoc, List.append_assoc] at b
    exact a.trans b
theorem junks_add : ∀ a b : Nat, junks a ++ junks b = junks (a + b)
 | 0, b => by rw [Nat.zero_add]; rfl
 | a + 1, b => by rw [Nat.succ_add]; exact congrArg (AO.junk :: ·) (junks_add a b)
theorem Wk.level {τ σ : St} {n : Nat} (h : noNs τ = true) (hn : τ.length <= n) : Wk (σ ++ τ) (σ ++ junks n) := by
 have a := Wk.forget τ σ h
 have b := Wk.pads (σ ++ junks τ.length) (n - τ.length)
 rw [List.append_assoc, junks_add, Nat.add_sub_cancel' hn] at b
 exact a.trans b
structure LeW (z r : Rec) : Prop where
 ev : ∀ c e σ v σ', z.ev c e σ = some (v, σ', true) -> ∃ σ'', r.ev c e σ = some (v, σ'', true) /\ Wk σ'' σ'
 tr : ∀ c e σ v σ', z.tr c e σ = some (v, σ', true) -> ∃ σ'', r.tr c e σ = some (v, σ'', true) /\ Wk σ'' σ'
 ex : ∀ c e σ v σ', z.ex c e σ = some (v, σ', true) -> ∃ σ'', r.ex c e σ = some (v, σ'', true) /\ Wk σ'' σ'
 call : ∀ f vs ks σ v σ', z.call f vs ks σ = some (v, σ', true) -> ∃ σ'', r.call f vs ks σ = some (v, σ'', true) /\ Wk σ'' σ'
theorem SndAll.of_leW {B : Nat} {z r : Rec} (a : SndAll B r) (l : LeW z r) : SndAll B z := fun P prog w hw => by
 constructor
 · intro c e σ v σ' ρ A env s h R E hr Q EE q
   obtain ⟨σ'', h', W⟩ := l.ev _ _ _ _ _ h
   refine (a P hw).ev h' R E hr Q EE fun ρ' s' u R' X' G' V' => ?_
   obtain ⟨ρ2, R2, X2⟩ := W.of R'
   exact q ρ2 s' u R2 (X'.trans X2) G' (V'.up X2.up)
 · intro c e σ v σ' ρ A env s h R E hr Q EE q
   obtain ⟨σ'', h', W⟩ := l.tr _ _ _ _ _ h
   refine (a P hw).tr h' R E hr Q EE fun ρ' s' u R' X' G' V' => ?_
   obtain ⟨ρ2, R2, X2⟩ := W.of R'
   exact q ρ2 s' u R2 (X'.trans X2) G' V'
 · intro c e σ v σ' ρ A env s h R E hr Q EE q
   obtain ⟨σ'', h', W⟩ := l.ex _ _ _ _ _ h
   refine (a P hw).ex h' R E hr Q EE fun ρ' s' u R' X' G' V' => ?_
   obtain ⟨ρ2, R2, X2⟩ := W.of R'
   refine q ρ2 s' u R2 (X'.trans X2) G' ?_
   cases V' with
   | next => exact .next
   | brk => exact .brk
   | cont => exact .cont
   | ret V => exact .ret (V.up X2.up)
 · intro f vs ks σ v σ' ρ A us uks s h R V W' fa hr Q q
   obtain ⟨σ'', h', W⟩ := l.call _ _ _ _ _ _ h
   refine (a P hw).call h' R V W' fa hr Q fun ρ' s' u R' X' G' V' => ?_
   obtain ⟨ρ2, R2, X2⟩ := W.of R'
   obtain ⟨x, e, V'⟩ := V'
   exact q ρ2 s' u R2 (X'.trans X2) G' ⟨x, e, V'.up X2.up⟩
theorem bnd_of {α β : Type} {x : Option α} {f : α -> Option β} {a : α} {y : Option β} (h : x = some a) (h2 : f a = y) : bnd x f = y := by subst h; unfold bnd; exact h2
theorem pk_tt {α : Type} {b : Bool} {x y z : α} (h : b = true) (k : x = z) : pk b x y = z := by rw [h, pk_true]; exact k
theorem pk_ff {α : Type} {b : Bool} {x y z : α} (h : b = false) (k : y = z) : pk b x y = z := by rw [h, pk_false]; exact k
theorem gd_of {α : Type} {b : Bool} {x z : Option α} (h : b = true) (k : x = z) : gd b x = z := by subst h; unfold gd; exact k
theorem ok_st {α : Type} {a b : α} {σ σ' : St} {P : St -> Prop} (h : ok a σ = some (b, σ', true)) (k : P σ') : P σ := by rw [(ok_some h).2]; exact k
theorem compL_cons {r : Rec} {c : Cx} {x : Str} {ifs : List Expr} {elt : Expr} {k m : Nat} {d : PyData} {l : List PyData} {σ σ₁ σ2 : St} (h1 : compL r c x ifs elt k m [d] σ = some ((), σ₁, true)) (h2 : compL r c x ifs elt k m l σ₁ = some ((), σ2, true)) : compL r c x ifs elt k m (d :: l) σ = some ((), σ2, true) := by
 unfold compL at h1 ⊢
 refine bnd_el h1 fun σa ha h1 => bnd_of ha (bn2_el h1 fun b σb hb h1 => bn2_of hb (pk2_el h1 (fun e h1 => pk_tt e ?_) fun e h1 => pk_ff e ?_))
 · exact bn2_el h1 fun v σc hc h1 => bn2_of hc (bnd_el h1 fun p hp h1 => bnd_of hp (bnd_el h1 fun acc hn h1 => bnd_of hn (chk_el h1 fun hf h1 => chk_of hf (ok_st (P := fun σ => compL r c x ifs elt k m l σ = _) h1 h2))))
 · exact ok_st (P := fun σ => compL r c x ifs elt k m l σ = _) h1 h2
theorem forA_cons {r : Rec} {c : Cx} {t : Expr} {b : List Stmt} {xs : List Str} {m : Nat} {d : PyData} {l : List PyData} {σ σ₁ σ2 : St} (h1 : forA r c t b xs m [d] σ = some ((), σ₁, true)) (h2 : forA r c t b xs m l σ₁ = some ((), σ2, true)) : forA r c t b xs m (d :: l) σ = some ((), σ2, true) := by
 unfold forA at h1 ⊢
 refine bnd_el h1 fun σa ha h1 => bnd_of ha (bn2_el h1 fun f σb hb h1 => bn2_of hb ?_)
 cases f with
 | next => exact ok_st (P := fun σ => forA r c t b xs m l σ = _) h1 h2
 | cont => exact ok_st (P := fun σ => forA r c t b xs m l σ = _) h1 h2
 | brk => exact none_el h1
 | ret v => exact none_el h1
theorem compA_of {r : Rec} {c : Cx} {x : Str} {iter elt : Expr} {ifs : List Expr} {sc : Scope} {σ σ₁ σ2 : St} {v : AV} {items : List PyData} {lk : Option Nat} {cl : List (Str × Nat)} {nl : List (Str × AV)} (h1 : r.ev c iter σ = some (v, σ₁, true)) (h2 : iterA v σ₁ = some (items, lk)) (h3 : closA c sc.names [] = some cl) (h4 : (locOk sc.names sc.names && isFnK sc.kind) = true)
 (h5 : compL r ⟨Nat.succ (len σ₁), { sc with names := relN c sc.names }, ownC (Nat.succ (Nat.succ (len σ₁))) sc.names cl⟩ x ifs elt (len σ₁) (Nat.add (Nat.succ (Nat.succ (len σ₁))) (len (ownO sc.names))) items
  (blurC ⟨Nat.succ (len σ₁), { sc with names := relN c sc.names }, ownC (Nat.succ (Nat.succ (len σ₁))) sc.names cl⟩ x (lockA lk σ₁ ++ (.list [] :: .ns [] :: ownO sc.names))) = some ((), σ2, true)) (h6 : nth σ2 (Nat.succ (len σ₁)) = some (.ns nl)) :
 compA r c x iter ifs elt sc σ = some (.ref (len σ₁), unlockA lk items (setNth σ2 (Nat.succ (len σ₁)) .junk), true) := by
 unfold compA
 refine bn2_of h1 (bnd_of h2 (bnd_of h3 (chk_of h4 ?_)))
 unfold compG
 exact bn2_of h5 (bnd_of (a := nl) (by unfold nsOf; rw [h6]; rfl) ok_eq)
theorem rps_append : ∀ (l k : List Row), rps (l ++ k) = rps l ++ rps k
 | [], _ => rfl
 | r :: l, k => congrArg (rp r :: ·) (rps_append l k)
theorem rps_len : ∀ l : List Row, (rps l).length = l.length
 | [] => rfl
 | _ :: l => congrArg Nat.succ (rps_len l)
theorem keepK_t {k : Kd} {r : Row} {l : List Row} (h : keq r.1.k k = true) : keepK k (r :: l) = keepK k l := by rw [keepK, h]
theorem keepK_f {k : Kd} {r : Row} {l : List Row} (h : keq r.1.k k = false) : keepK k (r :: l) = r :: keepK k l := by rw [keepK, h]
theorem keepK_len (k : Kd) : ∀ l : List Row, (keepK k l).length <= l.length
 | [] => Nat.le_refl _
 | r :: l => by
  unfold keepK
  cases keq r.1.k k with
  | true => exact Nat.le_succ_of_le (keepK_len k l)
  | false => exact Nat.succ_le_succ (keepK_len k l)
theorem fit_of {α : Type} {l : List α} (h : l.length <= 10000) : fit l = true := by unfold fit; rw [len_eq]; exact Nat.ble_eq_true_of_le h
set_option tactic.hygienic true in
theorem cutV_id {m : Nat} {v : AV} (h : closedV m v = true) : cutV m v = v := by
 cases v <;> first | rfl | skip
 rename_i i
 have h : Nat.blt i m = true := h
 show (match Nat.blt i m with | true => AV.ref i | false => AV.unk) = _
 rw [h]
theorem cutVs_id {m : Nat} : ∀ {l : List AV}, closedVs m l = true -> cutVs m l = l
 | [], _ => rfl
 | v :: l, h => by
  unfold closedVs at h
  rw [Bool.and_eq_true] at h
  unfold cutVs; rw [cutV_id h.1, cutVs_id h.2]
theorem cutN_id {m : Nat} : ∀ {l : List (Str × AV)}, closedN m l = true -> cutN m l = l
 | [], _ => rfl
 | p :: l, h => by
  unfold closedN at h
  rw [Bool.and_eq_true] at h
  unfold cutN; rw [cutV_id h.1, cutN_id h.2]
theorem cutO_id {m : Nat} {o : AO} (h : closedO m o = true) : cutO m o = o := by
 cases o with
 | ns l => show AO.ns (cutN m l) = _; rw [cutN_id h]
 | dict l => show AO.dict (cutN m l) = _; rw [cutN_id h]
 | tuple l => show AO.tuple (cutVs m l) = _; rw [cutVs_id h]
 | cell v => show AO.cell (cutV m v) = _; rw [cutV_id h]
 | inst C d =>
  have h : Nat.blt d m = true := h
  show (match Nat.blt d m with | true => AO.inst C d | false => AO.junk) = _
  rw [h]
 | _ => rfl
theorem cutS_id {m : Nat} : ∀ {l : St} {k : Nat}, closedS m l = true -> l.length <= k -> cutS m k l = l
 | [], 0, _, _ => rfl
 | [], _ + 1, _, _ => rfl
 | o :: l, k + 1, h, hk => by
  unfold closedS at h
  rw [Bool.and_eq_true] at h
  unfold cutS; rw [cutO_id h.1, cutS_id h.2 (Nat.le_of_succ_le_succ hk)]
noncomputable def st47 : Stmt := (nth fn108.body 0).getD noStmt
noncomputable def st48 : Stmt := (nth fn108.body 1).getD noStmt
theorem body108 : fn108.body = [st47, st48] := by kernel_rfl
noncomputable def asEe : Stmt -> Expr
 | .Assign _ e _ => e
 | _ => .Constant .none 0 ⟨0, 0, 0, 0⟩
noncomputable def asO : Stmt -> Expr
 | .Assign [.Subscript o _ _] _ _ => o
 | _ => .Constant .none 0 ⟨0, 0, 0, 0⟩
noncomputable def lcElt : Expr -> Expr
 | .ListComp e _ _ _ => e
 | e => e
noncomputable def lcIfs : Expr -> List Expr
 | .ListComp _ [⟨_, _, i, _⟩] _ _ => i
 | _ => []
noncomputable def lcIt : Expr -> Expr
 | .ListComp _ [⟨_, i, _, _⟩] _ _ => i
 | e => e
noncomputable def lcSc : Expr -> Scope
 | .ListComp _ _ sc _ => sc
 | _ => ⟨.function, [], false, false, []⟩
noncomputable abbrev lc48 : Expr := asEe st48
noncomputable def cx108 (f : Nat) : Cx := ⟨f, fn108.fd.scope, [(S "name", Nat.succ f)]⟩
noncomputable def cy108 (f : Nat) : Cx := ⟨f + 4, { lcSc lc48 with names := relN (cx108 f) (lcSc lc48).names }, ownC (f + 5) (lcSc lc48).names ((closA (cx108 f) (lcSc lc48).names []).getD [])⟩
theorem ev_lc {r : Rec} {c : Cx} {σ : St} : evA TT r c lc48 σ = compA r c (S "kv") (lcIt lc48) (lcIfs lc48) (lcElt lc48) (lcSc lc48) σ := by kernel_rfl
theorem ex_st48 {r : Rec} {c : Cx} {σ : St} : exA TT r c st48 σ = bn2 (r.ev c lc48 σ) fun w σ => bn2 (r.ev c (asO st48) σ) fun v σ => bn2 (setAllA v w σ) fun ι σ => ok .next σ := by kernel_rfl
theorem compA_of2 {r : Rec} {c C : Cx} {x : Str} {iter elt : Expr} {ifs : List Expr} {sc : Scope} {σ σ₁ σb σ2 σ3 : St} {v : AV} {items : List PyData} {lk : Option Nat} {cl : List (Str × Nat)} {nl : List (Str × AV)} {k m : Nat} (h1 : r.ev c iter σ = some (v, σ₁, true)) (h2 : iterA v σ₁ = some (items, lk)) (h3 : closA c sc.names [] = some cl) (h4 : (locOk sc.names sc.names && isFnK sc.kind) = true)
 (ek : len σ₁ = k) (eC : (⟨Nat.succ k, { sc with names := relN c sc.names }, ownC (Nat.succ (Nat.succ k)) sc.names cl⟩ : Cx) = C) (em : Nat.add (Nat.succ (Nat.succ k)) (len (ownO sc.names)) = m) (eb : blurC C x (lockA lk σ₁ ++ (.list [] :: .ns [] :: ownO sc.names)) = σb)
 (h5 : compL r C x ifs elt k m items σb = some ((), σ2, true)) (h6 : nth σ2 (Nat.succ k) = some (.ns nl)) (e3 : unlockA lk items (setNth σ2 (Nat.succ k) .junk) = σ3) :
 compA r c x iter ifs elt sc σ = some (.ref k, σ3, true) := by
 subst ek; subst eC; subst em; subst eb; subst e3
 exact compA_of h1 h2 h3 h4 h5 h6
theorem comp_gen {R : Rec} {C : Cx} {x : Str} {ifs : List Expr} {elt : Expr} {kx m : Nat} {mk : List PyData -> St} {k : Kd} (turn : ∀ acc n (v : Vl), fit acc = true -> compL R C x ifs elt kx m [.tuple [.str (Nm.s n), .str v.s]] (mk acc) = some ((), mk (match keq n.k k with | true => acc | false => acc ++ [.tuple [.str n.s, .str v.s]]), true)) :
 ∀ (T : List Row) (acc : List PyData), acc.length + T.length <= 10000 -> compL R C x ifs elt kx m (rps T) (mk acc) = some ((), mk (acc ++ rps (keepK k T)), true)
 | [], acc, h => by
  rw [show acc ++ rps (keepK k []) = acc from List.append_nil acc]
  exact ok_eq
 | (n, v) :: T, acc, h => by
  have t := turn acc n v (fit_of (by simp only [List.length_cons] at h; exact le_d ‹_› rfl))
  cases hk : keq n.k k with
  | true =>
   rw [hk] at t
   refine compL_cons t ?_
   rw [keepK_t (r := (n, v)) hk]
   exact comp_gen turn T acc (by simp only [List.length_cons] at h; exact le_t ‹_›)
  | false =>
   rw [hk] at t
   refine compL_cons t ?_
   rw [keepK_f (r := (n, v)) hk, show acc ++ rps ((n, v) :: keepK k T) = (acc ++ [rp (n, v)]) ++ rps (keepK k T) from by simp [rps]]
   exact comp_gen turn T (acc ++ [rp (n, v)]) (by simp only [List.length_cons, List.length_append, List.length_nil] at h ⊢; exact le_s ‹_›)
theorem set48 {R : Rec} {c : Cx} {σ σ₁ σ2 σ3 : St} {w v : AV} {b : Bool} (h1 : R.ev c lc48 σ = some (w, σ₁, true)) (h2 : R.ev c (asO st48) σ₁ = some (v, σ2, true)) (h3 : setAllA v w σ2 = some ((), σ3, b)) (hb : b = true) : exA TT R c st48 σ = some (.next, σ3, true) := by
 subst hb
 rw [ex_st48]
 exact bn2_of h1 (bn2_of h2 (bn2_of h3 ok_eq))
theorem call_none {f : Addr} {R : Rec} {vs : List AV} {ks : List (Str × AV)} {σ σ₁ σ2 σ3 : St} {c : Cx} {fn : Fn} {i : Nat} (h : callA TT R f vs ks σ = bn2 (exsA R c fn.body σ₁) fun fl σ' => bnd (flV fl) fun v => ok v (setNth σ' i .junk)) (h2 : exsA R c fn.body σ₁ = some (.next, σ2, true)) (h3 : setNth σ2 i .junk = σ3) : callA TT R f vs ks σ = some (.none, σ3, true) := by
 subst h3
 rw [h]
 exact bn2_of h2 (bnd_of (a := .none) rfl ok_eq)
theorem exs_two {R : Rec} {c : Cx} {a b : Stmt} {σ σ₁ σ2 : St} {l : List Stmt} (e : l = [a, b]) (h1 : R.ex c a σ = some (.next, σ₁, true)) (h2 : R.ex c b σ₁ = some (.next, σ2, true)) : exsA R c l σ = some (.next, σ2, true) := by
 subst e
 exact exs_cons h1 (exs_cons h2 exs_nil)
theorem and_t {a b : Bool} (h1 : a = true) (h2 : b = true) : (a && (b && true)) = true := by subst h1; subst h2; rfl
theorem up_ev {n : Nat} {c : Cx} {e : Expr} {σ : St} : (up rec0 (n + 1)).ev c e σ = evA TT (up rec0 n) c e σ := rfl
theorem up_tr {n : Nat} {c : Cx} {e : Expr} {σ : St} : (up rec0 (n + 1)).tr c e σ = trA TT (up rec0 n) c e σ := rfl
theorem up_ex {n : Nat} {c : Cx} {e : Stmt} {σ : St} : (up rec0 (n + 1)).ex c e σ = exA TT (up rec0 n) c e σ := rfl
theorem up_call {n : Nat} {f : Addr} {vs : List AV} {ks : List (Str × AV)} {σ : St} : (up rec0 (n + 1)).call f vs ks σ = callA TT (up rec0 n) f vs ks σ := rfl
section
variable (o : Nat -> AO)
noncomputable def s20 (m : AO) : St := [o 0, o 1, o 2, o 3, o 4, o 5, o 6, o 7, o 8, m, AO.dict [(S "_headers", AV.ref 9)], AO.inst 190 10, o 12, o 13, o 14, o 15, o 16, o 17, o 18, o 19]
theorem s20_turn (m : AO) (acc : List PyData) (n : Nm) (k : Kd) (v : Str) : compL (up rec0 23) (cy108 20) (S "kv") (lcIfs lc48) (lcElt lc48) 23 25 [.tuple [.str n.s, .str v]] (s20 o m ++ [AO.ns [(S "self", AV.ref 11)], AO.cell (AV.str k.s), AO.junk, AO.list acc, AO.ns [(S "kv", AV.unk)]]) =
 some ((), cutS 25 20 (s20 o m) ++ [AO.ns [(S "self", AV.ref 11)], AO.cell (AV.str k.s), AO.junk, AO.list (match keq n.k k with | true => acc | false => acc ++ [.tuple [.str n.s, .str v]]), AO.ns [(S "kv", AV.unk)]], match keq n.k k with | true => true | false => (fit acc && true)) := by
 cases n <;> cases k <;> kernel_rfl
theorem s20_comp (hc : closedS 25 (s20 o AO.junk) = true) (k : Kd) : ∀ (T : List Row) (acc : List PyData), acc.length + T.length <= 10000 -> compL (up rec0 23) (cy108 20) (S "kv") (lcIfs lc48) (lcElt lc48) 23 25 (rps T) (s20 o AO.junk ++ [AO.ns [(S "self", AV.ref 11)], AO.cell (AV.str k.s), AO.junk, AO.list acc, AO.ns [(S "kv", AV.unk)]]) =
 some ((), s20 o AO.junk ++ [AO.ns [(S "self", AV.ref 11)], AO.cell (AV.str k.s), AO.junk, AO.list (acc ++ rps (keepK k T)), AO.ns [(S "kv", AV.unk)]], true) := by
 have t := s20_turn o AO.junk
 rw [cutS_id (k := 20) hc (Nat.le_refl _)] at t
 refine comp_gen (mk := fun acc => s20 o AO.junk ++ [AO.ns [(S "self", AV.ref 11)], AO.cell (AV.str k.s), AO.junk, AO.list acc, AO.ns [(S "kv", AV.unk)]]) fun acc n v hf => (t acc n k v.s).trans ?_
 rw [hf]
 cases keq n.k k <;> rfl
theorem s20_47 (m : AO) (n : Nm) : (up rec0 25).ex (cx108 20) st47 (s20 o m ++ [AO.ns [(S "self", AV.ref 11)], AO.cell (AV.str n.s)]) = some (.next, s20 o m ++ [AO.ns [(S "self", AV.ref 11)], AO.cell (AV.str n.k.s), AO.junk], true) := by
 cases n <;> kernel_rfl
theorem s20_it (l : List PyData) (k : Kd) : (up rec0 23).ev (cx108 20) (lcIt lc48) (s20 o (AO.list l) ++ [AO.ns [(S "self", AV.ref 11)], AO.cell (AV.str k.s), AO.junk]) = some (.ref 9, s20 o (AO.list l) ++ [AO.ns [(S "self", AV.ref 11)], AO.cell (AV.str k.s), AO.junk], true) := by kernel_rfl
theorem s20_o (l l2 : List PyData) (k : Kd) : (up rec0 24).ev (cx108 20) (asO st48) (s20 o (AO.list l) ++ [AO.ns [(S "self", AV.ref 11)], AO.cell (AV.str k.s), AO.junk, AO.list l2, AO.junk]) = some (.ref 9, s20 o (AO.list l) ++ [AO.ns [(S "self", AV.ref 11)], AO.cell (AV.str k.s), AO.junk, AO.list l2, AO.junk], true) := by kernel_rfl
theorem s20_set (l l2 : List PyData) (k : Kd) : setAllA (.ref 9) (.ref 23) (s20 o (AO.list l) ++ [AO.ns [(S "self", AV.ref 11)], AO.cell (AV.str k.s), AO.junk, AO.list l2, AO.junk]) = some ((), s20 o (AO.list l2) ++ [AO.ns [(S "self", AV.ref 11)], AO.cell (AV.str k.s), AO.junk, AO.list l2, AO.junk], fit l && (fit l2 && true)) := by kernel_rfl
theorem s20_call (r : Rec) (m : AO) (n : Nm) : callA TT r 108 [.ref 11, .str n.s] [] (s20 o m) = bn2 (exsA r (cx108 20) fn108.body (s20 o m ++ [AO.ns [(S "self", AV.ref 11)], AO.cell (AV.str n.s)])) fun fl σ' => bnd (flV fl) fun v => ok v (setNth σ' 20 AO.junk) := by kernel_rfl
theorem s20_bl (l : List PyData) (k : Kd) : blurC (cy108 20) (S "kv") (lockA (some 9) (s20 o (AO.list l) ++ [AO.ns [(S "self", AV.ref 11)], AO.cell (AV.str k.s), AO.junk]) ++ (AO.list [] :: AO.ns [] :: ownO (lcSc lc48).names)) = s20 o AO.junk ++ [AO.ns [(S "self", AV.ref 11)], AO.cell (AV.str k.s), AO.junk, AO.list [], AO.ns [(S "kv", AV.unk)]] := by kernel_rfl
theorem s20_un (l l2 : List PyData) (k : Kd) : unlockA (some 9) l (setNth (s20 o AO.junk ++ [AO.ns [(S "self", AV.ref 11)], AO.cell (AV.str k.s), AO.junk, AO.list l2, AO.ns [(S "kv", AV.unk)]]) (Nat.succ 23) AO.junk) = s20 o (AO.list l) ++ [AO.ns [(S "self", AV.ref 11)], AO.cell (AV.str k.s), AO.junk, AO.list l2, AO.junk] := by kernel_rfl
theorem s20_del (hc : closedS 25 (s20 o AO.junk) = true) (T : List Row) (n : Nm) (hT : T.length <= 9000) : (up rec0 26).call 108 [.ref 11, .str n.s] [] (s20 o (AO.list (rps T))) = some (.none, s20 o (AO.list (rps (keepK n.k T))) ++ [AO.junk, AO.cell (AV.str n.k.s), AO.junk, AO.list (rps (keepK n.k T)), AO.junk], true) := by
 have h1 : (up rec0 24).ev (cx108 20) lc48 (s20 o (AO.list (rps T)) ++ [AO.ns [(S "self", AV.ref 11)], AO.cell (AV.str n.k.s), AO.junk]) = some (.ref 23, s20 o (AO.list (rps T)) ++ [AO.ns [(S "self", AV.ref 11)], AO.cell (AV.str n.k.s), AO.junk, AO.list (rps (keepK n.k T)), AO.junk], true) := by
  rw [up_ev, ev_lc]
  exact compA_of2 (nl := [(S "kv", AV.unk)]) (cl := [(S "name", 21)]) (s20_it o (rps T) n.k) (by kernel_rfl) (by kernel_rfl) (by kernel_rfl) (by kernel_rfl) (by kernel_rfl) (by kernel_rfl) (s20_bl o (rps T) n.k) (s20_comp o hc n.k T [] (by simp only [List.length_nil]; exact le_0 ‹_› rfl)) (by kernel_rfl) (s20_un o (rps T) (rps (keepK n.k T)) n.k)
 have h2 : (up rec0 25).ex (cx108 20) st48 (s20 o (AO.list (rps T)) ++ [AO.ns [(S "self", AV.ref 11)], AO.cell (AV.str n.k.s), AO.junk]) = some (.next, s20 o (AO.list (rps (keepK n.k T))) ++ [AO.ns [(S "self", AV.ref 11)], AO.cell (AV.str n.k.s), AO.junk, AO.list (rps (keepK n.k T)), AO.junk], true) := by
  rw [up_ex]
  exact set48 h1 (s20_o o (rps T) (rps (keepK n.k T)) n.k) (s20_set o (rps T) (rps (keepK n.k T)) n.k) (and_t (fit_of (by rw [rps_len]; exact le_c ‹_› rfl)) (fit_of (by rw [rps_len]; have := keepK_len n.k T; exact le_e ‹_› ‹_› rfl)))
 rw [up_call]
 exact call_none (s20_call o (up rec0 25) (AO.list (rps T)) n) (exs_two body108 (s20_47 o (AO.list (rps T)) n) h2) (by kernel_rfl)
end
section
variable (o : Nat -> AO)
noncomputable def s21 (m : AO) : St := [o 0, o 1, o 2, o 3, o 4, o 5, o 6, o 7, o 8, m, AO.dict [(S "_headers", AV.ref 9)], AO.inst 190 10, o 12, o 13, o 14, o 15, o 16, o 17, o 18, o 19, o 20]
theorem s21_turn (m : AO) (acc : List PyData) (n : Nm) (k : Kd) (v : Str) : compL (up rec0 23) (cy108 21) (S "kv") (lcIfs lc48) (lcElt lc48) 24 26 [.tuple [.str n.s, .str v]] (s21 o m ++ [AO.ns [(S "self", AV.ref 11)], AO.cell (AV.str k.s), AO.junk, AO.list acc, AO.ns [(S "kv", AV.unk)]]) =
 some ((), cutS 26 21 (s21 o m) ++ [AO.ns [(S "self", AV.ref 11)], AO.cell (AV.str k.s), AO.junk, AO.list (match keq n.k k with | true => acc | false => acc ++ [.tuple [.str n.s, .str v]]), AO.ns [(S "kv", AV.unk)]], match keq n.k k with | true => true | false => (fit acc && true)) := by
 cases n <;> cases k <;> kernel_rfl
theorem s21_comp (hc : closedS 26 (s21 o AO.junk) = true) (k : Kd) : ∀ (T : List Row) (acc : List PyData), acc.length + T.length <= 10000 -> compL (up rec0 23) (cy108 21) (S "kv") (lcIfs lc48) (lcElt lc48) 24 26 (rps T) (s21 o AO.junk ++ [AO.ns [(S "self", AV.ref 11)], AO.cell (AV.str k.s), AO.junk, AO.list acc, AO.ns [(S "kv", AV.unk)]]) =
 some ((), s21 o AO.junk ++ [AO.ns [(S "self", AV.ref 11)], AO.cell (AV.str k.s), AO.junk, AO.list (acc ++ rps (keepK k T)), AO.ns [(S "kv", AV.unk)]], true) := by
 have t := s21_turn o AO.junk
 rw [cutS_id (k := 21) hc (Nat.le_refl _)] at t
 refine comp_gen (mk := fun acc => s21 o AO.junk ++ [AO.ns [(S "self", AV.ref 11)], AO.cell (AV.str k.s), AO.junk, AO.list acc, AO.ns [(S "kv", AV.unk)]]) fun acc n v hf => (t acc n k v.s).trans ?_
 rw [hf]
 cases keq n.k k <;> rfl
theorem s21_47 (m : AO) (n : Nm) : (up rec0 25).ex (cx108 21) st47 (s21 o m ++ [AO.ns [(S "self", AV.ref 11)], AO.cell (AV.str n.s)]) = some (.next, s21 o m ++ [AO.ns [(S "self", AV.ref 11)], AO.cell (AV.str n.k.s), AO.junk], true) := by
 cases n <;> kernel_rfl
theorem s21_it (l : List PyData) (k : Kd) : (up rec0 23).ev (cx108 21) (lcIt lc48) (s21 o (AO.list l) ++ [AO.ns [(S "self", AV.ref 11)], AO.cell (AV.str k.s), AO.junk]) = some (.ref 9, s21 o (AO.list l) ++ [AO.ns [(S "self", AV.ref 11)], AO.cell (AV.str k.s), AO.junk], true) := by kernel_rfl
theorem s21_o (l l2 : List PyData) (k : Kd) : (up rec0 24).ev (cx108 21) (asO st48) (s21 o (AO.list l) ++ [AO.ns [(S "self", AV.ref 11)], AO.cell (AV.str k.s), AO.junk, AO.list l2, AO.junk]) = some (.ref 9, s21 o (AO.list l) ++ [AO.ns [(S "self", AV.ref 11)], AO.cell (AV.str k.s), AO.junk, AO.list l2, AO.junk], true) := by kernel_rfl
theorem s21_set (l l2 : List PyData) (k : Kd) : setAllA (.ref 9) (.ref 24) (s21 o (AO.list l) ++ [AO.ns [(S "self", AV.ref 11)], AO.cell (AV.str k.s), AO.junk, AO.list l2, AO.junk]) = some ((), s21 o (AO.list l2) ++ [AO.ns [(S "self", AV.ref 11)], AO.cell (AV.str k.s), AO.junk, AO.list l2, AO.junk], fit l && (fit l2 && true)) := by kernel_rfl
theorem s21_call (r : Rec) (m : AO) (n : Nm) : callA TT r 108 [.ref 11, .str n.s] [] (s21 o m) = bn2 (exsA r (cx108 21) fn108.body (s21 o m ++ [AO.ns [(S "self", AV.ref 11)], AO.cell (AV.str n.s)])) fun fl σ' => bnd (flV fl) fun v => ok v (setNth σ' 21 AO.junk) := by kernel_rfl
theorem s21_bl (l : List PyData) (k : Kd) : blurC (cy108 21) (S "kv") (lockA (some 9) (s21 o (AO.list l) ++ [AO.ns [(S "self", AV.ref 11)], AO.cell (AV.str k.s), AO.junk]) ++ (AO.list [] :: AO.ns [] :: ownO (lcSc lc48).names)) = s21 o AO.junk ++ [AO.ns [(S "self", AV.ref 11)], AO.cell (AV.str k.s), AO.junk, AO.list [], AO.ns [(S "kv", AV.unk)]] := by kernel_rfl
theorem s21_un (l l2 : List PyData) (k : Kd) : unlockA (some 9) l (setNth (s21 o AO.junk ++ [AO.ns [(S "self", AV.ref 11)], AO.cell (AV.str k.s), AO.junk, AO.list l2, AO.ns [(S "kv", AV.unk)]]) (Nat.succ 24) AO.junk) = s21 o (AO.list l) ++ [AO.ns [(S "self", AV.ref 11)], AO.cell (AV.str k.s), AO.junk, AO.list l2, AO.junk] := by kernel_rfl
theorem s21_del (hc : closedS 26 (s21 o AO.junk) = true) (T : List Row) (n : Nm) (hT : T.length <= 9000) : (up rec0 26).call 108 [.ref 11, .str n.s] [] (s21 o (AO.list (rps T))) = some (.none, s21 o (AO.list (rps (keepK n.k T))) ++ [AO.junk, AO.cell (AV.str n.k.s), AO.junk, AO.list (rps (keepK n.k T)), AO.junk], true) := by
 have h1 : (up rec0 24).ev (cx108 21) lc48 (s21 o (AO.list (rps T)) ++ [AO.ns [(S "self", AV.ref 11)], AO.cell (AV.str n.k.s), AO.junk]) = some (.ref 24, s21 o (AO.list (rps T)) ++ [AO.ns [(S "self", AV.ref 11)], AO.cell (AV.str n.k.s), AO.junk, AO.list (rps (keepK n.k T)), AO.junk], true) := by
  rw [up_ev, ev_lc]
  exact compA_of2 (nl := [(S "kv", AV.unk)]) (cl := [(S "name", 22)]) (s21_it o (rps T) n.k) (by kernel_rfl) (by kernel_rfl) (by kernel_rfl) (by kernel_rfl) (by kernel_rfl) (by kernel_rfl) (s21_bl o (rps T) n.k) (s21_comp o hc n.k T [] (by simp only [List.length_nil]; exact le_0 ‹_› rfl)) (by kernel_rfl) (s21_un o (rps T) (rps (keepK n.k T)) n.k)
 have h2 : (up rec0 25).ex (cx108 21) st48 (s21 o (AO.list (rps T)) ++ [AO.ns [(S "self", AV.ref 11)], AO.cell (AV.str n.k.s), AO.junk]) = some (.next, s21 o (AO.list (rps (keepK n.k T))) ++ [AO.ns [(S "self", AV.ref 11)], AO.cell (AV.str n.k.s), AO.junk, AO.list (rps (keepK n.k T)), AO.junk], true) := by
  rw [up_ex]
  exact set48 h1 (s21_o o (rps T) (rps (keepK n.k T)) n.k) (s21_set o (rps T) (rps (keepK n.k T)) n.k) (and_t (fit_of (by rw [rps_len]; exact le_c ‹_› rfl)) (fit_of (by rw [rps_len]; have := keepK_len n.k T; exact le_e ‹_› ‹_› rfl)))
 rw [up_call]
 exact call_none (s21_call o (up rec0 25) (AO.list (rps T)) n) (exs_two body108 (s21_47 o (AO.list (rps T)) n) h2) (by kernel_rfl)
end
section
variable (o : Nat -> AO)
noncomputable def s29 (m : AO) : St := [o 0, o 1, o 2, o 3, o 4, o 5, o 6, o 7, o 8, m, AO.dict [(S "_headers", AV.ref 9)], AO.inst 190 10, o 12, o 13, o 14, o 15, o 16, o 17, o 18, o 19, o 20, o 21, o 22, o 23, o 24, o 25, o 26, o 27, o 28]
theorem s29_turn (m : AO) (acc : List PyData) (n : Nm) (k : Kd) (v : Str) : compL (up rec0 23) (cy108 29) (S "kv") (lcIfs lc48) (lcElt lc48) 32 34 [.tuple [.str n.s, .str v]] (s29 o m ++ [AO.ns [(S "self", AV.ref 11)], AO.cell (AV.str k.s), AO.junk, AO.list acc, AO.ns [(S "kv", AV.unk)]]) =
 some ((), cutS 34 29 (s29 o m) ++ [AO.ns [(S "self", AV.ref 11)], AO.cell (AV.str k.s), AO.junk, AO.list (match keq n.k k with | true => acc | false => acc ++ [.tuple [.str n.s, .str v]]), AO.ns [(S "kv", AV.unk)]], match keq n.k k with | true => true | false => (fit acc && true)) := by
 cases n <;> cases k <;> kernel_rfl
theorem s29_comp (hc : closedS 34 (s29 o AO.junk) = true) (k : Kd) : ∀ (T : List Row) (acc : List PyData), acc.length + T.length <= 10000 -> compL (up rec0 23) (cy108 29) (S "kv") (lcIfs lc48) (lcElt lc48) 32 34 (rps T) (s29 o AO.junk ++ [AO.ns [(S "self", AV.ref 11)], AO.cell (AV.str k.s), AO.junk, AO.list acc, AO.ns [(S "kv", AV.unk)]]) =
 some ((), s29 o AO.junk ++ [AO.ns [(S "self", AV.ref 11)], AO.cell (AV.str k.s), AO.junk, AO.list (acc ++ rps (keepK k T)), AO.ns [(S "kv", AV.unk)]], true) := by
 have t := s29_turn o AO.junk
 rw [cutS_id (k := 29) hc (Nat.le_refl _)] at t
 refine comp_gen (mk := fun acc => s29 o AO.junk ++ [AO.ns [(S "self", AV.ref 11)], AO.cell (AV.str k.s), AO.junk, AO.list acc, AO.ns [(S "kv", AV.unk)]]) fun acc n v hf => (t acc n k v.s).trans ?_
 rw [hf]
 cases keq n.k k <;> rfl
theorem s29_47 (m : AO) (n : Nm) : (up rec0 25).ex (cx108 29) st47 (s29 o m ++ [AO.ns [(S "self", AV.ref 11)], AO.cell (AV.str n.s)]) = some (.next, s29 o m ++ [AO.ns [(S "self", AV.ref 11)], AO.cell (AV.str n.k.s), AO.junk], true) := by
 cases n <;> kernel_rfl
theorem s29_it (l : List PyData) (k : Kd) : (up rec0 23).ev (cx108 29) (lcIt lc48) (s29 o (AO.list l) ++ [AO.ns [(S "self", AV.ref 11)], AO.cell (AV.str k.s), AO.junk]) = some (.ref 9, s29 o (AO.list l) ++ [AO.ns [(S "self", AV.ref 11)], AO.cell (AV.str k.s), AO.junk], true) := by kernel_rfl
theorem s29_o (l l2 : List PyData) (k : Kd) : (up rec0 24).ev (cx108 29) (asO st48) (s29 o (AO.list l) ++ [AO.ns [(S "self", AV.ref 11)], AO.cell (AV.str k.s), AO.junk, AO.list l2, AO.junk]) = some (.ref 9, s29 o (AO.list l) ++ [AO.ns [(S "self", AV.ref 11)], AO.cell (AV.str k.s), AO.junk, AO.list l2, AO.junk], true) := by kernel_rfl
theorem s29_set (l l2 : List PyData) (k : Kd) : setAllA (.ref 9) (.ref 32) (s29 o (AO.list l) ++ [AO.ns [(S "self", AV.ref 11)], AO.cell (AV.str k.s), AO.junk, AO.list l2, AO.junk]) = some ((), s29 o (AO.list l2) ++ [AO.ns [(S "self", AV.ref 11)], AO.cell (AV.str k.s), AO.junk, AO.list l2, AO.junk], fit l && (fit l2 && true)) := by kernel_rfl
theorem s29_call (r : Rec) (m : AO) (n : Nm) : callA TT r 108 [.ref 11, .str n.s] [] (s29 o m) = bn2 (exsA r (cx108 29) fn108.body (s29 o m ++ [AO.ns [(S "self", AV.ref 11)], AO.cell (AV.str n.s)])) fun fl σ' => bnd (flV fl) fun v => ok v (setNth σ' 29 AO.junk) := by kernel_rfl
theorem s29_bl (l : List PyData) (k : Kd) : blurC (cy108 29) (S "kv") (lockA (some 9) (s29 o (AO.list l) ++ [AO.ns [(S "self", AV.ref 11)], AO.cell (AV.str k.s), AO.junk]) ++ (AO.list [] :: AO.ns [] :: ownO (lcSc lc48).names)) = s29 o AO.junk ++ [AO.ns [(S "self", AV.ref 11)], AO.cell (AV.str k.s), AO.junk, AO.list [], AO.ns [(S "kv", AV.unk)]] := by kernel_rfl
theorem s29_un (l l2 : List PyData) (k : Kd) : unlockA (some 9) l (setNth (s29 o AO.junk ++ [AO.ns [(S "self", AV.ref 11)], AO.cell (AV.str k.s), AO.junk, AO.list l2, AO.ns [(S "kv", AV.unk)]]) (Nat.succ 32) AO.junk) = s29 o (AO.list l) ++ [AO.ns [(S "self", AV.ref 11)], AO.cell (AV.str k.s), AO.junk, AO.list l2, AO.junk] := by kernel_rfl
theorem s29_del (hc : closedS 34 (s29 o AO.junk) = true) (T : List Row) (n : Nm) (hT : T.length <= 9000) : (up rec0 26).call 108 [.ref 11, .str n.s] [] (s29 o (AO.list (rps T))) = some (.none, s29 o (AO.list (rps (keepK n.k T))) ++ [AO.junk, AO.cell (AV.str n.k.s), AO.junk, AO.list (rps (keepK n.k T)), AO.junk], true) := by
 have h1 : (up rec0 24).ev (cx108 29) lc48 (s29 o (AO.list (rps T)) ++ [AO.ns [(S "self", AV.ref 11)], AO.cell (AV.str n.k.s), AO.junk]) = some (.ref 32, s29 o (AO.list (rps T)) ++ [AO.ns [(S "self", AV.ref 11)], AO.cell (AV.str n.k.s), AO.junk, AO.list (rps (keepK n.k T)), AO.junk], true) := by
  rw [up_ev, ev_lc]
  exact compA_of2 (nl := [(S "kv", AV.unk)]) (cl := [(S "name", 30)]) (s29_it o (rps T) n.k) (by kernel_rfl) (by kernel_rfl) (by kernel_rfl) (by kernel_rfl) (by kernel_rfl) (by kernel_rfl) (s29_bl o (rps T) n.k) (s29_comp o hc n.k T [] (by simp only [List.length_nil]; exact le_0 ‹_› rfl)) (by kernel_rfl) (s29_un o (rps T) (rps (keepK n.k T)) n.k)
 have h2 : (up rec0 25).ex (cx108 29) st48 (s29 o (AO.list (rps T)) ++ [AO.ns [(S "self", AV.ref 11)], AO.cell (AV.str n.k.s), AO.junk]) = some (.next, s29 o (AO.list (rps (keepK n.k T))) ++ [AO.ns [(S "self", AV.ref 11)], AO.cell (AV.str n.k.s), AO.junk, AO.list (rps (keepK n.k T)), AO.junk], true) := by
  rw [up_ex]
  exact set48 h1 (s29_o o (rps T) (rps (keepK n.k T)) n.k) (s29_set o (rps T) (rps (keepK n.k T)) n.k) (and_t (fit_of (by rw [rps_len]; exact le_c ‹_› rfl)) (fit_of (by rw [rps_len]; have := keepK_len n.k T; exact le_e ‹_› ‹_› rfl)))
 rw [up_call]
 exact call_none (s29_call o (up rec0 25) (AO.list (rps T)) n) (exs_two body108 (s29_47 o (AO.list (rps T)) n) h2) (by kernel_rfl)
end
theorem nmOf_s (n : Nm) : nmOf n.s = some n := by cases n <;> kernel_rfl
theorem vlOf_s (v : Vl) : vlOf v.s = some v := by cases v <;> kernel_rfl
theorem pk_s {α : Type} {f : α -> Str} {x t : Str} {v n : α} {y : Option α} (h : pk (seq x t) (some v) y = some n) (e : f v = t) (k : y = some n -> x = f n) : x = f n := by
 exact pk2_el h (fun b h => by rw [seq_iff.mp b, <- e, Option.some.inj h]) fun ι h => k h
theorem nmOf_inv {x : Str} {n : Nm} (h : nmOf x = some n) : x = n.s := by
 unfold nmOf at h
 exact pk_s h rfl fun h => pk_s h rfl fun h => pk_s h rfl fun h => pk_s h rfl fun h => pk_s h rfl fun h => pk_s h rfl fun h => none_el h
theorem vlOf_inv {x : Str} {n : Vl} (h : vlOf x = some n) : x = n.s := by
 unfold vlOf at h
 exact pk_s h rfl fun h => pk_s h rfl fun h => pk_s h rfl fun h => none_el h
theorem row2_inv {l : List PyData} {r : Row} (h : row2 l = some r) : PyData.tuple l = rp r := by
 cases l with
 | nil => exact none_el h
 | cons a l =>
  refine bnd_el h fun n h1 h => ?_
  cases l with
  | nil => exact none_el h
  | cons b l =>
   refine bnd_el h fun v h2 h => ?_
   refine bnd_el h fun n' h3 h => ?_
   refine bnd_el h fun v' h4 h => ?_
   cases l with
   | nil =>
    rw [strP_inv h1, strP_inv h2, nmOf_inv h3, vlOf_inv h4, <- Option.some.inj h]; rfl
   | cons => exact none_el h
theorem rowOf_inv {d : PyData} {r : Row} (h : rowOf d = some r) : d = rp r := by
 cases d with
 | tuple l => exact row2_inv h
 | _ => exact none_el h
theorem rowsOf_inv : ∀ {l : List PyData} {T : List Row}, rowsOf l = some T -> l = rps T
 | [], T, h => by cases h; rfl
 | d :: l, T, h => by
  obtain ⟨r, h1, h⟩ := bnd_some (show bnd (rowOf d) (fun r => bnd (rowsOf l) fun rs => some (r :: rs)) = some T from h)
  obtain ⟨rs, h2, h⟩ := bnd_some h
  cases h
  rw [rowOf_inv h1, rowsOf_inv h2]; rfl
theorem rowsOf_rps : ∀ T : List Row, rowsOf (rps T) = some T
 | [] => rfl
 | (n, v) :: T => by
  exact bnd_of (show rowOf (rp (n, v)) = some (n, v) from bnd_of (a := n.s) rfl (bnd_of (a := v.s) rfl (bnd_of (nmOf_s n) (bnd_of (vlOf_s v) rfl)))) (bnd_of (rowsOf_rps T) rfl)
theorem rowsD_rps (T : List Row) : rowsD (rps T) = T := by unfold rowsD; rw [rowsOf_rps]; rfl
theorem okT_rps {T : List Row} (h : T.length <= 5000) : okT (rps T) = true := by
 unfold okT
 rw [rowsOf_rps, len_eq, rps_len]
 show Nat.ble _ _ = true
 exact Nat.ble_eq_true_of_le h
theorem okT_inv {l : List PyData} (h : okT l = true) : l = rps (rowsD l) /\ (rowsD l).length <= 5000 := by
 unfold okT at h
 rw [Bool.and_eq_true] at h
 cases e : rowsOf l with
 | none => rw [e] at h; cases h.1
 | some T =>
  have := rowsOf_inv e
  subst this
  rw [rowsD_rps]
  have h2 := Nat.le_of_ble_eq_true h.2
  rw [len_eq, rps_len] at h2
  exact ⟨rfl, h2⟩
noncomputable def tabF (f : Nat -> AO) : Nat -> Nat -> St
 | 0, _ => []
 | n + 1, i => f i :: tabF f n (i + 1)
theorem tabF_eq {f : Nat -> AO} : ∀ (n : Nat) (σ : St) (k : Nat), len σ = n -> (∀ i, f (k + i) = (nth σ i).getD .junk) -> tabF f n k = σ := fun n => by
 induction n with
 | zero =>
  intro σ k h _
  cases σ with
  | nil => rfl
  | cons => exact Nat.noConfusion h
 | succ n ih =>
  intro σ k h g
  cases σ with
  | nil => exact Nat.noConfusion h
  | cons o σ =>
   show f k :: tabF f n (k + 1) = o :: σ
   rw [ih σ (k + 1) (Nat.succ.inj h) fun i => by rw [Nat.add_assoc, Nat.add_comm 1 i]; exact g (i + 1), show f k = o from g 0]
theorem shape {n : Nat} {σ : St} {X : (Nat -> AO) -> St} (h : len σ = n) (k : ∀ o : Nat -> AO, (∀ i, o i = (nth σ i).getD .junk) -> tabF o n 0 = X o) : ∃ o, σ = X o :=
 ⟨_, (tabF_eq n σ 0 h fun i => by rw [Nat.zero_add]).symm.trans (k (fun i => (nth σ i).getD .junk) fun ι => rfl)⟩
theorem at_of {o : Nat -> AO} {σ : St} {i : Nat} {x : AO} (g : ∀ i, o i = (nth σ i).getD .junk) (t : nth σ i = some x) : x = o i := by rw [g, t]; rfl
theorem closedV_le {m n : Nat} {v : AV} (hm : m <= n) (h : closedV m v = true) : closedV n v = true := by
 cases v <;> first | rfl | skip
 have h : Nat.blt _ m = true := h
 exact Nat.ble_eq_true_of_le (Nat.le_trans (Nat.le_of_ble_eq_true h) hm)
theorem closedVs_le {m n : Nat} (hm : m <= n) : ∀ {l : List AV}, closedVs m l = true -> closedVs n l = true
 | [], _ => rfl
 | v :: l, h => by
  unfold closedVs at h ⊢
  rw [Bool.and_eq_true] at h ⊢
  exact ⟨closedV_le hm h.1, closedVs_le hm h.2⟩
theorem closedN_le {m n : Nat} (hm : m <= n) : ∀ {l : List (Str × AV)}, closedN m l = true -> closedN n l = true
 | [], _ => rfl
 | v :: l, h => by
  unfold closedN at h ⊢
  rw [Bool.and_eq_true] at h ⊢
  exact ⟨closedV_le hm h.1, closedN_le hm h.2⟩
theorem closedO_le {m n : Nat} {o : AO} (hm : m <= n) (h : closedO m o = true) : closedO n o = true := by
 cases o with
 | ns l => exact closedN_le hm (show closedN m l = true from h)
 | dict l => exact closedN_le hm (show closedN m l = true from h)
 | tuple l => exact closedVs_le hm (show closedVs m l = true from h)
 | cell v => exact closedV_le hm (show closedV m v = true from h)
 | inst C d =>
  have h : Nat.blt d m = true := h
  exact Nat.ble_eq_true_of_le (Nat.le_trans (Nat.le_of_ble_eq_true h) hm)
 | _ => rfl
theorem closedS_le {m n : Nat} (hm : m <= n) : ∀ {l : St}, closedS m l = true -> closedS n l = true
 | [], _ => rfl
 | v :: l, h => by
  unfold closedS at h ⊢
  rw [Bool.and_eq_true] at h ⊢
  exact ⟨closedO_le hm h.1, closedS_le hm h.2⟩
theorem rfIs_inv {i : Nat} {v : AV} (h : rfIs i v = true) : v = .ref i := by
 cases v with
 | ref j => exact congrArg _ (Nat.eq_of_beq_eq_true h)
 | _ => exact ff_el h
theorem hdIs_inv {d : List (Str × AV)} (h : hdIs d = true) : d = [(S "_headers", .ref 9)] := by
 cases d with
 | nil => exact ff_el h
 | cons p l =>
  obtain ⟨h1, h⟩ := Bool.and_eq_true _ _ ▸ h
  obtain ⟨h2, h3⟩ := Bool.and_eq_true _ _ ▸ h
  cases l with
  | nil => rw [<- seq_iff.mp h1, <- rfIs_inv h2]
  | cons => exact ff_el h3
theorem tabAt_inv {σ : St} {l : List PyData} (h : tabAt σ = some l) : nth σ 9 = some (.list l) /\ nth σ 10 = some (.dict [(S "_headers", .ref 9)]) /\ nth σ 11 = some (.inst 190 10) := by
 refine bnd_el h fun l' h1 h => ?_
 refine bnd_el h fun d h2 h => ?_
 refine bnd_el h fun q h3 h => ?_
 refine pk_el h fun e h => and_el e fun e1 e2 => and_el e2 fun e2 e3 => ?_
 rw [lsO_inv h1, dictOfA_eq h2, instOf_eq h3, hdIs_inv e1, Nat.eq_of_beq_eq_true e2, Nat.eq_of_beq_eq_true e3, Option.some.inj h]
 exact ⟨rfl, rfl, rfl⟩
theorem sm_eq {α : Type} {a v : α} {σ σ' : St} {b : Bool} (h : some (a, σ, b) = some (v, σ', true)) : v = a /\ σ' = σ /\ b = true := by cases h; exact ⟨rfl, rfl, rfl⟩
theorem z108_20 {σ : St} {x : Str} {n : Nm} {l : List PyData} (hL0 : len σ = 20) (hn : nmOf x = some n) (ht : tabAt σ = some l) (hc : closedS 20 (setNth σ 9 .junk) = true) (hl : okT l = true) :
 (up rec0 26).call 108 [.ref 11, .str x] [] σ = some (.none, setNth σ 9 (.list (rps (keepK n.k (rowsD l)))) ++ [AO.junk, AO.cell (AV.str n.k.s), AO.junk, AO.list (rps (keepK n.k (rowsD l))), AO.junk], true) := by
 obtain ⟨t1, t2, t3⟩ := tabAt_inv ht
 obtain ⟨e1, e2⟩ := okT_inv hl
 have := nmOf_inv hn
 subst this
 obtain ⟨o, rfl⟩ : ∃ o : Nat -> AO, σ = s20 o (.list l) := shape hL0 fun o g => by
  rw [at_of g t1]
  unfold s20
  rw [at_of g t2, at_of g t3]
  rfl
 generalize rowsD l = T at e1 e2 ⊢
 subst e1
 exact s20_del o (closedS_le (by decide) hc) T n (le_c ‹_› rfl)
theorem z108_21 {σ : St} {x : Str} {n : Nm} {l : List PyData} (hL0 : len σ = 21) (hn : nmOf x = some n) (ht : tabAt σ = some l) (hc : closedS 21 (setNth σ 9 .junk) = true) (hl : okT l = true) :
 (up rec0 26).call 108 [.ref 11, .str x] [] σ = some (.none, setNth σ 9 (.list (rps (keepK n.k (rowsD l)))) ++ [AO.junk, AO.cell (AV.str n.k.s), AO.junk, AO.list (rps (keepK n.k (rowsD l))), AO.junk], true) := by
 obtain ⟨t1, t2, t3⟩ := tabAt_inv ht
 obtain ⟨e1, e2⟩ := okT_inv hl
 have := nmOf_inv hn
 subst this
 obtain ⟨o, rfl⟩ : ∃ o : Nat -> AO, σ = s21 o (.list l) := shape hL0 fun o g => by
  rw [at_of g t1]
  unfold s21
  rw [at_of g t2, at_of g t3]
  rfl
 generalize rowsD l = T at e1 e2 ⊢
 subst e1
 exact s21_del o (closedS_le (by decide) hc) T n (le_c ‹_› rfl)
theorem z108_29 {σ : St} {x : Str} {n : Nm} {l : List PyData} (hL0 : len σ = 29) (hn : nmOf x = some n) (ht : tabAt σ = some l) (hc : closedS 29 (setNth σ 9 .junk) = true) (hl : okT l = true) :
 (up rec0 26).call 108 [.ref 11, .str x] [] σ = some (.none, setNth σ 9 (.list (rps (keepK n.k (rowsD l)))) ++ [AO.junk, AO.cell (AV.str n.k.s), AO.junk, AO.list (rps (keepK n.k (rowsD l))), AO.junk], true) := by
 obtain ⟨t1, t2, t3⟩ := tabAt_inv ht
 obtain ⟨e1, e2⟩ := okT_inv hl
 have := nmOf_inv hn
 subst this
 obtain ⟨o, rfl⟩ : ∃ o : Nat -> AO, σ = s29 o (.list l) := shape hL0 fun o g => by
  rw [at_of g t1]
  unfold s29
  rw [at_of g t2, at_of g t3]
  rfl
 generalize rowsD l = T at e1 e2 ⊢
 subst e1
 exact s29_del o (closedS_le (by decide) hc) T n (le_c ‹_› rfl)
theorem z1_le : LeW z1 (up rec0 26) where
 ev := fun ι ι ι ι ι h => nomatch h
 tr := fun ι ι ι ι ι h => nomatch h
 ex := fun ι ι ι ι ι h => nomatch h
 call := fun f vs ks σ v σ' h => by
  refine pk_el h fun e h => and_el e fun e1 e2 => ?_
  refine bnd_el h fun p h1 h => ?_
  refine bnd_el h fun x h2 h => ?_
  refine pk_el h fun e3 h => ?_
  refine pk_el h fun h3 h => ?_
  refine bnd_el h fun n hn h => ?_
  refine bnd_el h fun l ht h => ?_
  obtain ⟨rfl, rfl, hfl⟩ := sm_eq h
  rw [Nat.eq_of_beq_eq_true e1, isNil_inv e2, twoV_inv h1, rfIs_inv e3, strV_inv h2]
  refine and_el hfl fun f1 f2 => ⟨_, ?_, .refl _⟩
  unfold is3 at h3
  rw [Bool.or_eq_true, Bool.or_eq_true] at h3
  rcases h3 with h3 | h3 | h3
  · have e := Nat.eq_of_beq_eq_true h3; rw [e] at f1; exact z108_20 e hn ht f1 f2
  · have e := Nat.eq_of_beq_eq_true h3; rw [e] at f1; exact z108_21 e hn ht f1 f2
  · have e := Nat.eq_of_beq_eq_true h3; rw [e] at f1; exact z108_29 e hn ht f1 f2
theorem z1_snd : SndAll 86 z1 := (SndAll.up (Nat.le_refl 60) (SndAll.zero 60) 26).of_leW z1_le
theorem closedS_append {m : Nat} : ∀ {a b : St}, closedS m a = true -> closedS m b = true -> closedS m (a ++ b) = true
 | [], _, _, h => h
 | o :: a, b, h1, h2 => by
  have h1 : (closedO m o && closedS m a) = true := h1
  show (closedO m o && closedS m (a ++ b)) = true
  rw [Bool.and_eq_true] at h1 ⊢
  exact ⟨h1.1, closedS_append h1.2 h2⟩
theorem tt_of {a : Bool} (h : a = true) : (a && true) = true := by subst h; rfl
theorem tt2 {a b : Bool} (h : a = true) (h2 : b = true) : (a && b) = true := by subst h; subst h2; rfl
section
variable (o : Nat -> AO)
noncomputable def s17 (m : AO) : St := [o 0, o 1, o 2, o 3, o 4, o 5, o 6, o 7, o 8, m, AO.dict [(S "_headers", AV.ref 9)], AO.inst 190 10, o 12, o 13, o 14, o 15, o 16]
noncomputable def nsR (r : Nat) (n : Nm) (v : Vl) : AO := AO.ns [(S "table", AV.ref 11), (S "r", AV.int (Int.ofNat r)), (S "name", AV.str n.s), (S "value", AV.str v.s)]
noncomputable def fSet (l : List PyData) (n : Nm) (v : Vl) : Bool := ((((((((((closedS 21 (s17 o AO.junk ++ [nsR (code (.st, (n, v))) n v, AO.junk, AO.list [PyData.str (S ""), PyData.str (S "it's"), PyData.str (S "x y")], AO.ns [(S "self", AV.ref 11), (S "name", AV.str n.s), (S "val", AV.str v.s)]]) && okT l) && true) && true) && (((fit (rps (keepK n.k (rowsD l))) && true) && true) && true)) && true) && true) && true) && true) && true) && true)
noncomputable def fDel (l : List PyData) (n : Nm) (v : Vl) : Bool := (((((((closedS 20 (s17 o AO.junk ++ [nsR (code (.de, (n, v))) n v, AO.junk, AO.list [PyData.str (S ""), PyData.str (S "it's"), PyData.str (S "x y")]]) && okT l) && true) && true) && true) && true) && true) && true)
noncomputable def fAdd (l : List PyData) : Bool := (((((((((fit l && true) && true) && true) && true) && true) && true) && true) && true) && true)
noncomputable def tSet (l : List PyData) (n : Nm) : St := [AO.junk, AO.junk, AO.list [PyData.str (S ""), PyData.str (S "it's"), PyData.str (S "x y")], AO.junk, AO.junk, AO.cell (AV.str n.k.s), AO.junk, AO.list (rps (keepK n.k (rowsD l))), AO.junk, AO.junk, AO.junk]
noncomputable def tAdd (v : Vl) : St := [AO.junk, AO.junk, AO.list [PyData.str (S ""), PyData.str (S "it's"), PyData.str (S "x y")], AO.dict [], AO.junk, AO.list [PyData.str v.s], AO.junk, AO.junk]
noncomputable def tDel (l : List PyData) (n : Nm) : St := [AO.junk, AO.junk, AO.list [PyData.str (S ""), PyData.str (S "it's"), PyData.str (S "x y")], AO.junk, AO.cell (AV.str n.k.s), AO.junk, AO.list (rps (keepK n.k (rowsD l))), AO.junk]
theorem l_set (l : List PyData) (n : Nm) (v : Vl) : (up z1 30).call 930 [AV.ref 11, AV.int (Int.ofNat (code (.st, (n, v))))] [] (s17 o (AO.list l)) = some (AV.none, s17 o (AO.list (rps (keepK n.k (rowsD l)) ++ [rp (n, v)])) ++ tSet l n, fSet o l n v) := by
 cases n <;> cases v <;> kernel_rfl
theorem l_add (l : List PyData) (n : Nm) (v : Vl) : (up z1 30).call 930 [AV.ref 11, AV.int (Int.ofNat (code (.ad, (n, v))))] [] (s17 o (AO.list l)) = some (AV.none, s17 o (AO.list (l ++ [rp (n, v)])) ++ tAdd v, fAdd l) := by
 cases n <;> cases v <;> kernel_rfl
theorem l_del (l : List PyData) (n : Nm) (v : Vl) : (up z1 30).call 930 [AV.ref 11, AV.int (Int.ofNat (code (.de, (n, v))))] [] (s17 o (AO.list l)) = some (AV.none, s17 o (AO.list (rps (keepK n.k (rowsD l)))) ++ tDel l n, fDel o l n v) := by
 cases n <;> cases v <;> kernel_rfl
theorem l_all (hc : closedS 17 (s17 o AO.junk) = true) (T : List Row) (hT : T.length <= 5000) (d : Dr) : ∃ σ'', (up z1 30).call 930 [AV.ref 11, AV.int (Int.ofNat (code d))] [] (s17 o (AO.list (rps T))) = some (AV.none, σ'', true) /\ Wk σ'' (s17 o (AO.list (rps (stepT d T))) ++ junks 11) := by
 obtain ⟨o, n, v⟩ := d
 have ok := okT_rps hT
 have hf : fit (rps T) = true := fit_of (by rw [rps_len]; exact le_c ‹_› rfl)
 have hk : fit (rps (keepK n.k T)) = true := fit_of (by rw [rps_len]; have := keepK_len n.k T; exact le_e ‹_› ‹_› rfl)
 cases o with
 | st =>
  have h := l_set o (rps T) n v
  rw [rowsD_rps, show fSet o (rps T) n v = true from ?_, show rps (keepK n.k T) ++ [rp (n, v)] = rps (stepT (.st, (n, v)) T) from (rps_append _ [(n, v)]).symm] at h
  · exact ⟨_, h, .level rfl (Nat.le_refl _)⟩
  · unfold fSet
    rw [rowsD_rps]
    exact tt_of (tt_of (tt_of (tt_of (tt_of (tt_of (tt2 (tt_of (tt_of (tt2 (closedS_append (closedS_le (by decide) hc) rfl) ok))) (tt_of (tt_of (tt_of (hk))))))))))
 | ad =>
  have h := l_add o (rps T) n v
  rw [show fAdd (rps T) = true from tt_of (tt_of (tt_of (tt_of (tt_of (tt_of (tt_of (tt_of (tt_of (hf))))))))), show rps T ++ [rp (n, v)] = rps (stepT (.ad, (n, v)) T) from (rps_append _ [(n, v)]).symm] at h
  exact ⟨_, h, .level rfl (by show 8 <= 11; decide)⟩
 | de =>
  have h := l_del o (rps T) n v
  rw [rowsD_rps, show fDel o (rps T) n v = true from tt_of (tt_of (tt_of (tt_of (tt_of (tt_of (tt2 (closedS_append (closedS_le (by decide) hc) rfl) ok))))))] at h
  exact ⟨_, h, .level rfl (by show 8 <= 11; decide)⟩
end
theorem code_drOf {r : Nat} (h : r < 54) : code (drOf r) = r := by
 have : ∀ r : Fin 54, code (drOf r.1) = r.1 := by decide +kernel
 exact this ⟨r, h⟩
theorem z930_17 {σ : St} {r : Nat} {l : List PyData} (hL0 : len σ = 17) (hr : r < 54) (ht : tabAt σ = some l) (hc : closedS 17 (setNth σ 9 .junk) = true) (hl : okT l = true) :
 ∃ σ'', (up z1 30).call 930 [AV.ref 11, AV.int (Int.ofNat r)] [] σ = some (AV.none, σ'', true) /\ Wk σ'' (setNth σ 9 (AO.list (rps (stepT (drOf r) (rowsD l)))) ++ junks 11) := by
 obtain ⟨t1, t2, t3⟩ := tabAt_inv ht
 obtain ⟨e1, e2⟩ := okT_inv hl
 obtain ⟨o, rfl⟩ : ∃ o : Nat -> AO, σ = s17 o (.list l) := shape hL0 fun o g => by
  rw [at_of g t1]
  unfold s17
  rw [at_of g t2, at_of g t3]
  rfl
 generalize rowsD l = T at e1 e2 ⊢
 subst e1
 have := l_all o hc T e2 (drOf r)
 rw [code_drOf hr] at this
 exact this
theorem z2_le : LeW z2 (up z1 30) where
 ev := fun ι ι ι ι ι h => nomatch h
 tr := fun ι ι ι ι ι h => nomatch h
 ex := fun ι ι ι ι ι h => nomatch h
 call := fun f vs ks σ v σ' h => by
  refine pk_el h fun e h => and_el e fun e1 e2 => ?_
  refine bnd_el h fun p h1 h => ?_
  refine bnd_el h fun x h2 h => ?_
  refine pk_el h fun e3 h => ?_
  refine pk_el h fun h3 h => ?_
  refine bnd_el h fun l ht h => ?_
  refine bnd_el h fun r hr h => ?_
  obtain ⟨rfl, rfl, hfl⟩ := sm_eq h
  rw [Nat.eq_of_beq_eq_true e1, isNil_inv e2, twoV_inv h1, rfIs_inv e3, intV_inv h2, natI_inv hr]
  exact and_el hfl fun f1 f => and_el f fun f2 f3 => z930_17 (Nat.eq_of_beq_eq_true h3) (Nat.le_of_ble_eq_true f3) ht f1 f2
theorem z2_snd : SndAll 116 z2 := (SndAll.up (by decide) z1_snd 30).of_leW z2_le
theorem and_i {a b : Bool} (h1 : a = true) (h2 : b = true) : (a && b) = true := by rw [h1, h2]; rfl
theorem oneV_one {α : Type} (a : α) : oneV [a] = some a := by kernel_rfl
theorem lcE_none {e : Expr} (g : isCompr e = false) : lcE e = none := by cases e <;> first | rfl | cases g
section
variable {T : Tp} {r : Rec} {c : Cx} {σ σ₁ σ2 σ3 σ4 : St}
theorem ev_meth {o : Expr} {x : Str} {ap p : Pos} {as : List Expr} {kws : List Keyword} {v w : AV} {m : MK} {vs ks : List AV} {ns : List Str} (g1 : notSuper o = true) (g2 : Nat.beq ap.endLine p.line = true) (g3 : plainArgs as = true) (g4 : Nat.blt (len as) 10 = true) (g5 : Nat.blt (len kws) 10 = true)
 (h1 : r.ev c o σ = some (v, σ₁, true)) (h2 : findM T v x σ₁ = some m) (h3 : evsA r c as σ₁ = some (vs, σ2, true)) (h4 : kwNames kws = some ns) (h5 : evsA r c (kwVals kws) σ2 = some (ks, σ3, true)) (h6 : applyM T r m vs (zipS ns ks) σ3 = some (w, σ4, true)) :
 evA T r c (.Call (.Attribute o x ap) as kws p) σ = some (w, σ4, true) := by
 exact gd_of g3 (gd_of (and_i g1 (and_i g2 (and_i g4 g5))) (bn2_of h1 (bnd_of h2 (bn2_of h3 (bnd_of h4 (bn2_of h5 h6))))))
theorem ap_pop {i : Nat} {l : List PyData} {p : List PyData × PyData} (h1 : nth σ i = some (.list l)) (h2 : lastP l = some p) (h3 : fit l = true) : applyM T r (.pop i) [] [] σ = some (ofP p.2, setNth σ i (.list p.1), true) := by
 exact gd_of rfl (gd_of rfl (bnd_of (by rw [h1]; rfl) (bnd_of h2 (chk_of h3 ok_eq))))
theorem ex_asg {x : Str} {p q : Pos} {e : Expr} {v : AV} (g : isCompr e = false) (h1 : r.ev c e σ = some (v, σ₁, true)) (h2 : storeL c x v σ₁ = some σ2) : exA T r c (.Assign [.Name x p] e q) σ = some (.next, σ2, true) := by
 refine bnd_of (oneV_one _) ?_
 show asN r c x e σ = _
 unfold asN
 rw [lcE_none g]
 exact gd_of (by rw [g]; rfl) (bn2_of h1 (bnd_of h2 ok_eq))
theorem ex_expr {e : Expr} {p : Pos} {v : AV} (g : isCompr e = false) (h1 : r.ev c e σ = some (v, σ₁, true)) (h2 : notRef v = true) : exA T r c (.Expr e p) σ = some (.next, σ₁, true) := by
 exact gd_of (by rw [g]; rfl) (bn2_of h1 (gd_of h2 ok_eq))
theorem ex_ret {e : Expr} {p : Pos} {v : AV} (h1 : r.ev c e σ = some (v, σ₁, true)) : exA T r c (.Return (some e) p) σ = some (.ret v, σ₁, true) := by
 exact bn2_of h1 ok_eq
theorem ex_while {t : Expr} {b : List Stmt} {p : Pos} {f : Fl} (h : whA r c t b 1000 σ = some (f, σ₁, true)) : exA T r c (.While t b [] p) σ = some (f, σ₁, true) := gd_of rfl h
theorem wh_end {t : Expr} {b : List Stmt} {n : Nat} (h : r.tr c t σ = some (false, σ₁, true)) : whA r c t b (n + 1) σ = some (.next, σ₁, true) := by
 unfold whA
 exact bn2_of h ok_eq
theorem wh_next {t : Expr} {b : List Stmt} {n : Nat} {f : Fl} (h1 : r.tr c t σ = some (true, σ₁, true)) (h2 : exsA r c b σ₁ = some (.next, σ2, true)) (h3 : whA r c t b n σ2 = some (f, σ3, true)) : whA r c t b (n + 1) σ = some (f, σ3, true) := by
 unfold whA
 exact bn2_of h1 (bn2_of h2 h3)
theorem ex_tryS {o x y ex o2 x2 y2 : Str} {po ap py p ps pe po2 ap2 py2 p2 pb hp tp : Pos} {i j : Nat} {d l m : List PyData} {f : Fl} {fs : String} {σa σb σc σd : St} (e1 : seq x s_remove = true) (e2 : seq x2 s_append = true) (e3 : seq y y2 = true) (e4 : Nat.beq ap.endLine p.line = true) (e5 : (Nat.beq ap2.endLine p2.line && !calm σ) = true)
 (h0 : nameA T c ex σ = some (.raw (.type fs), σa, true)) (hf : leq (strN fs) (strN "ValueError") = true) (h1 : nameA T c o σ = some (.ref i, σb, true)) (h2 : nameA T c o2 σ = some (.ref j, σc, true)) (h3 : nameA T c y σ = some (.dat (.tuple d), σd, true))
 (h4 : nth σ i = some (.list l)) (h5 : nth σ j = some (.list m)) (c1 : fit l = true) (c2 : shp (.tuple d) = true) (c3 : shp (.list l) = true) (h6 : tryA i j (.tuple d) l σ (remP (.tuple d) l) = some (f, σ₁, true)) :
 exA T r c (.Try [.Expr (.Call (.Attribute (.Name o po) x ap) [.Name y py] [] p) ps] [.ExceptHandler (some (.Name ex pe)) none [.Expr (.Call (.Attribute (.Name o2 po2) x2 ap2) [.Name y2 py2] [] p2) pb] hp] [] [] tp) σ = some (f, σ₁, true) := by
 refine gd_of rfl (bnd_of (a := (⟨o, x, [.Name y py], ap, p⟩, y)) (bnd_of (oneV_one _) (by kernel_rfl)) (bnd_of (a := ⟨ex, ⟨o2, x2, [.Name y2 py2], ap2, p2⟩, y2⟩) (bnd_of (oneV_one _) (by kernel_rfl)) ?_))
 exact gd_of (and_i e1 (and_i e2 (and_i e3 (and_i e4 e5)))) (bn2_of h0 (bnd_of rfl (gd_of hf (bn2_of h1 (bn2_of h2 (bn2_of h3 (bnd_of rfl (bnd_of rfl (bnd_of rfl (bnd_of (by rw [h4]; rfl) (bnd_of (by rw [h5]; rfl) (chk_of c1 (chk_of c2 (chk_of c3 h6))))))))))))))
theorem forSt_of {t it : Expr} {b : List Stmt} {p : Pos} {v : AV} {items : List PyData} {lk : Option Nat} {σb : St} (g1 : notSet it = true) (g2 : isRange it = none) (g3 : isItems it = none) (h1 : r.ev c it σ = some (v, σ₁, true)) (h2 : iterA v σ₁ = some (items, lk)) (h3 : fit items = true) (hb : blur c (loopN t b) (lockA lk σ₁) = σb) (h4 : forA r c t b (loopN t b) (len σ₁) items σb = some ((), σ2, true)) (h5 : unlockA lk items σ2 = σ3) :
 exA T r c (.For t it b [] p) σ = some (.next, σ3, true) := by
 subst hb; subst h5
 refine gd_of (and_i rfl g1) ?_
 unfold forSt
 rw [g2]
 dsimp only
 rw [g3]
 exact bn2_of h1 (bnd_of h2 (chk_of h3 (bn2_of h4 ok_eq)))
end
theorem lastP_snoc : ∀ (l : List PyData) (d : PyData), lastP (l ++ [d]) = some (l, d)
 | [], d => rfl
 | [a], d => by kernel_rfl
 | a :: b :: l, d => by
  exact bnd_of (lastP_snoc (b :: l) d) rfl
theorem seq_nm (a b : Nm) : seq a.s b.s = nmq a b := by cases a <;> cases b <;> kernel_rfl
theorem seq_vl (a b : Vl) : seq a.s b.s = vlq a b := by cases a <;> cases b <;> kernel_rfl
theorem pdEq_rp (a b : Row) : pdEq (rp a) (rp b) = req a b := by
 have e : pdEq (rp a) (rp b) = (match seq a.1.s b.1.s with | true => (match seq a.2.s b.2.s with | true => true | false => false) | false => false) := by kernel_rfl
 rw [e, seq_nm, seq_vl]
 unfold req
 cases nmq a.1 b.1 with
 | true => dsimp only; cases vlq a.2 b.2 <;> rfl
 | false => rfl
theorem remP_rps (d : Row) : ∀ l : List Row, remP (rp d) (rps l) = (remR d l).map rps
 | [] => rfl
 | r :: l => by
  show pk (pdEq (rp r) (rp d)) (some (rps l)) (bnd (remP (rp d) (rps l)) fun k => some (rp r :: k)) = Option.map rps (match req r d with | true => some l | false => (match remR d l with | some k => some (r :: k) | none => none))
  rw [pdEq_rp, remP_rps d l]
  cases req r d with
  | true => exact pk_true
  | false => cases remR d l <;> kernel_rfl
set_option tactic.hygienic true in
theorem remR_len {d : Row} : ∀ {l k : List Row}, remR d l = some k -> k.length <= l.length
 | r :: l, k, h => by
  unfold remR at h
  split at h
  · cases h; exact Nat.le_succ _
  · split at h
    · rename_i k' e; cases h; exact Nat.succ_le_succ (remR_len e)
    · cases h
theorem shp_rp (r : Row) : shp (rp r) = true := by
 obtain ⟨n, v⟩ := r
 cases n <;> cases v <;> kernel_rfl
theorem shp_parts (r : Row) : PyData.canLay0 (rp r) = true /\ PyData.depth (rp r) = 1 := by
 obtain ⟨n, v⟩ := r
 cases n <;> cases v <;> exact ⟨by kernel_rfl, by kernel_rfl⟩
theorem shaped_all : ∀ l : List Row, PyData.canLayAll0 (rps l) = true /\ PyData.depthAll (rps l) <= 1
 | [] => ⟨rfl, Nat.zero_le _⟩
 | r :: l => by
  obtain ⟨a, b⟩ := shp_parts r
  obtain ⟨c, d⟩ := shaped_all l
  refine ⟨?_, ?_⟩
  · show (PyData.canLay0 (rp r) && PyData.canLayAll0 (rps l)) = true
    rw [a, c]; rfl
  · show max (PyData.depth (rp r)) (PyData.depthAll (rps l)) <= 1
    rw [b]; lia
theorem shp_rps (l : List Row) : shp (.list (rps l)) = true := by
 obtain ⟨a, b⟩ := shaped_all l
 show (PyData.canLayAll0 (rps l) && decide (PyData.depthAll (rps l) + 1 <= 64)) = true
 rw [a, decide_eq_true (by exact lt_c ‹_› rfl)]; rfl
noncomputable def uB : List Stmt := [.Assign [.Name (S "item") ⟨104, 8, 104, 12⟩] (.Call (.Attribute (.Name (S "expected") ⟨104, 15, 104, 23⟩) (S "pop") ⟨104, 15, 104, 27⟩) [] [] ⟨104, 15, 104, 29⟩) ⟨104, 8, 104, 29⟩,
 .Try [.Expr (.Call (.Attribute (.Name (S "actual") ⟨106, 12, 106, 18⟩) (S "remove") ⟨106, 12, 106, 25⟩) [.Name (S "item") ⟨106, 26, 106, 30⟩] [] ⟨106, 12, 106, 31⟩) ⟨106, 12, 106, 31⟩] [.ExceptHandler (some (.Name (S "ValueError") ⟨107, 15, 107, 25⟩)) none [.Expr (.Call (.Attribute (.Name (S "missing") ⟨108, 12, 108, 19⟩) (S "append") ⟨108, 12, 108, 26⟩) [.Name (S "item") ⟨108, 27, 108, 31⟩] [] ⟨108, 12, 108, 32⟩) ⟨108, 12, 108, 32⟩] ⟨107, 8, 108, 32⟩] [] [] ⟨105, 8, 108, 32⟩]
noncomputable def uT : Expr := .Name (S "expected") ⟨103, 10, 103, 18⟩
noncomputable def u0 : Stmt := .Assign [.Name (S "missing") ⟨102, 4, 102, 11⟩] (.List [] ⟨102, 14, 102, 16⟩) ⟨102, 4, 102, 16⟩
noncomputable def u2 : Stmt := .Return (some (.Tuple [.Name (S "missing") ⟨109, 12, 109, 19⟩, .Name (S "actual") ⟨109, 21, 109, 27⟩] 0 ⟨109, 11, 109, 28⟩)) ⟨109, 4, 109, 28⟩
theorem body201 : fn201.body = [u0, .While uT uB [] ⟨103, 4, 108, 32⟩, u2] := by kernel_rfl
noncomputable def cxU : Cx := ⟨31, fn201.fd.scope, []⟩
theorem tr_name {r : Rec} {c : Cx} {x : Str} {p : Pos} {σ σ₁ : St} {i : Nat} {l : List PyData} {b : Bool} (h : r.ev c (.Name x p) σ = some (.ref i, σ₁, true)) (h2 : nth σ₁ i = some (.list l)) (h3 : fit l = true) (h4 : (!isNil l) = b) : trA TT r c (.Name x p) σ = some (b, σ₁, true) := by
 subst h4
 refine gd_of rfl (bn2_of h ?_)
 show truthO σ₁ (nth σ₁ i) = _
 rw [h2]
 exact chk_of h3 ok_eq
theorem rps_snoc (E : List Row) (r : Row) : rps ((r :: E).reverse) = rps E.reverse ++ [rp r] := by
 rw [List.reverse_cons, rps_append]; rfl
section
variable (o : Nat -> AO)
noncomputable def s31 (E A : List PyData) : St := [o 0, o 1, o 2, o 3, o 4, o 5, o 6, o 7, o 8, o 9, o 10, o 11, o 12, o 13, o 14, o 15, o 16, o 17, o 18, o 19, o 20, o 21, o 22, o 23, o 24, o 25, o 26, o 27, AO.list E, o 29, AO.list A]
noncomputable def uW (it : List (Str × AV)) (E A M : List PyData) : St := s31 o E A ++ [AO.ns ((S "expected", AV.ref 28) :: (S "actual", AV.ref 30) :: (S "missing", AV.ref 32) :: it), AO.list M]
theorem u_ev (it : List (Str × AV)) (E A M : List PyData) (p : Pos) : (up rec0 20).ev cxU (.Name (S "expected") p) (uW o it E A M) = some (AV.ref 28, uW o it E A M, true) := by kernel_rfl
theorem u_ev' (it : List (Str × AV)) (E A M : List PyData) (p : Pos) : (up rec0 19).ev cxU (.Name (S "expected") p) (uW o it E A M) = some (AV.ref 28, uW o it E A M, true) := by kernel_rfl
theorem u_fm (it : List (Str × AV)) (E A M : List PyData) : findM TT (AV.ref 28) (S "pop") (uW o it E A M) = some (.pop 28) := by kernel_rfl
theorem u_set28 (it : List (Str × AV)) (E E' A M : List PyData) : setNth (uW o it E A M) 28 (AO.list E') = uW o it E' A M := by kernel_rfl
theorem u_set30 (it : List (Str × AV)) (E A A' M : List PyData) : setNth (uW o it E A M) 30 (AO.list A') = uW o it E A' M := by kernel_rfl
theorem u_set32 (it : List (Str × AV)) (E A M M' : List PyData) : setNth (uW o it E A M) 32 (AO.list M') = uW o it E A M' := by kernel_rfl
theorem u_sto0 (d : AV) (E A M : List PyData) : storeL cxU (S "item") d (uW o [] E A M) = some (uW o [(S "item", d)] E A M) := by kernel_rfl
theorem u_sto1 (d d' : AV) (E A M : List PyData) : storeL cxU (S "item") d (uW o [(S "item", d')] E A M) = some (uW o [(S "item", d)] E A M) := by kernel_rfl
theorem u_ve (it : List (Str × AV)) (E A M : List PyData) : nameA TT cxU (S "ValueError") (uW o it E A M) = some (.raw (.type "ValueError"), uW o it E A M, true) := by kernel_rfl
theorem u_ac (it : List (Str × AV)) (E A M : List PyData) : nameA TT cxU (S "actual") (uW o it E A M) = some (.ref 30, uW o it E A M, true) := by kernel_rfl
theorem u_mi (it : List (Str × AV)) (E A M : List PyData) : nameA TT cxU (S "missing") (uW o it E A M) = some (.ref 32, uW o it E A M, true) := by kernel_rfl
theorem u_it (d : Row) (E A M : List PyData) : nameA TT cxU (S "item") (uW o [(S "item", .dat (rp d))] E A M) = some (.dat (rp d), uW o [(S "item", .dat (rp d))] E A M, true) := by kernel_rfl
theorem u_n28 (it : List (Str × AV)) (E A M : List PyData) : nth (uW o it E A M) 28 = some (.list E) := by kernel_rfl
theorem u_n30 (it : List (Str × AV)) (E A M : List PyData) : nth (uW o it E A M) 30 = some (.list A) := by kernel_rfl
theorem u_n32 (it : List (Str × AV)) (E A M : List PyData) : nth (uW o it E A M) 32 = some (.list M) := by kernel_rfl
theorem u_calm (it : List (Str × AV)) (E A M : List PyData) : calm (uW o it E A M) = calm (s31 o E A) := by kernel_rfl
theorem u_turn (hcm : calm (s31 o [] []) = false) (it : List (Str × AV)) (hit : it = [] \/ ∃ d, it = [(S "item", d)]) (r : Row) (E A M : List Row) (hE : E.length <= 900) (hA : A.length <= 900) (hM : M.length <= 5000) :
 exsA (up rec0 21) cxU uB (uW o it (rps ((r :: E).reverse)) (rps A) (rps M)) = some (.next, (match remR r A with | some A' => uW o [(S "item", .dat (rp r))] (rps E.reverse) (rps A') (rps M) | none => uW o [(S "item", .dat (rp r))] (rps E.reverse) (rps A) (rps (M ++ [r]))), true) := by
 have f1 : fit (rps ((r :: E).reverse)) = true := fit_of (by rw [rps_len, List.length_reverse, List.length_cons]; exact lt_c ‹_› rfl)
 have f2 : fit (rps A) = true := fit_of (by rw [rps_len]; exact le_c ‹_› rfl)
 have f3 : fit (rps M) = true := fit_of (by rw [rps_len]; exact le_c ‹_› rfl)
 have p1 : (up rec0 21).ex cxU (.Assign [.Name (S "item") ⟨104, 8, 104, 12⟩] (.Call (.Attribute (.Name (S "expected") ⟨104, 15, 104, 23⟩) (S "pop") ⟨104, 15, 104, 27⟩) [] [] ⟨104, 15, 104, 29⟩) ⟨104, 8, 104, 29⟩) (uW o it (rps ((r :: E).reverse)) (rps A) (rps M)) = some (.next, uW o [(S "item", .dat (rp r))] (rps E.reverse) (rps A) (rps M), true) := by
  rw [up_ex]
  refine ex_asg (v := .dat (rp r)) (σ₁ := uW o it (rps E.reverse) (rps A) (rps M)) rfl ?_ ?_
  · rw [up_ev]
    refine ev_meth rfl rfl rfl rfl rfl (u_ev' o it _ _ _ _) (u_fm o it _ _ _) ok_eq rfl ok_eq ((ap_pop (u_n28 o it _ _ _) (by rw [rps_snoc]; exact lastP_snoc _ _) f1).trans ?_)
    rw [u_set28]; rfl
  · rcases hit with rfl | ⟨d, rfl⟩
    · exact u_sto0 o _ _ _ _
    · exact u_sto1 o _ _ _ _ _
 refine exs_cons p1 (exs_cons ?_ exs_nil)
 rw [up_ex]
 refine ex_tryS rfl rfl rfl rfl (by rw [u_calm]; show (true && !calm (s31 o [] [])) = true; rw [hcm]; rfl) (u_ve o _ _ _ _) (by kernel_rfl) (u_ac o _ _ _ _) (u_mi o _ _ _ _) (u_it o r _ _ _) (u_n30 o _ _ _ _) (u_n32 o _ _ _ _) f2 (shp_rp r) (shp_rps A) ?_
 have e := remP_rps r A
 have e2 : remP (.tuple [.str r.1.s, .str r.2.s]) (rps A) = (remR r A).map rps := e
 rw [e2]
 cases remR r A with
 | some A' =>
  show ok Fl.next (setNth _ 30 (AO.list (rps A'))) = _
  rw [u_set30]
  exact ok_eq
 | none =>
  refine bnd_of (a := rps M) (by rw [u_n32]; rfl) (chk_of f3 ?_)
  show ok Fl.next (setNth _ 32 (AO.list (rps M ++ [rp r]))) = _
  rw [u_set32, rps_append]
  exact ok_eq
theorem u_loop (hcm : calm (s31 o [] []) = false) : ∀ (E : List Row) (n : Nat) (it : List (Str × AV)) (A M : List Row), (it = [] \/ ∃ d, it = [(S "item", d)]) -> E.length < n -> E.length <= 900 -> A.length <= 900 -> M.length + E.length <= 5000 ->
 ∃ it', (it' = [] \/ ∃ d, it' = [(S "item", d)]) /\ whA (up rec0 21) cxU uT uB n (uW o it (rps E.reverse) (rps A) (rps M)) = some (.next, uW o it' [] (rps (uldR E A M).2) (rps (uldR E A M).1), true)
 | E, 0, it, A, M, _, h, _, _, _ => absurd h (Nat.not_lt_zero _)
 | [], n + 1, it, A, M, hit, _, _, hA, _ => by
  refine ⟨it, hit, wh_end ?_⟩
  rw [up_tr]
  exact tr_name (u_ev o it _ _ _ _) (u_n28 o it _ _ _) rfl rfl
 | r :: E, n + 1, it, A, M, hit, h, hE, hA, hM => by
  rw [List.length_cons] at h hE hM
  have t := u_turn o hcm it hit r E A M (le_d ‹_› rfl) hA (le_d ‹_› rfl)
  have tr : (up rec0 21).tr cxU uT (uW o it (rps (r :: E).reverse) (rps A) (rps M)) = some (true, uW o it (rps (r :: E).reverse) (rps A) (rps M), true) := by
   rw [up_tr]
   refine tr_name (u_ev o it _ _ _ _) (u_n28 o it _ _ _) (fit_of (by rw [rps_len, List.length_reverse, List.length_cons]; exact le_c ‹_› rfl)) ?_
   rw [rps_snoc]
   cases rps E.reverse <;> rfl
  cases hr : remR r A with
  | some A' =>
   rw [hr] at t
   obtain ⟨it', h1, h2⟩ := u_loop hcm E n [(S "item", .dat (rp r))] A' M (.inr ⟨_, rfl⟩) (by lia) (le_d ‹_› rfl) (Nat.le_trans (remR_len hr) hA) (le_t ‹_›)
   refine ⟨it', h1, ?_⟩
   rw [show uldR (r :: E) A M = uldR E A' M from by rw [uldR, hr]]
   exact wh_next tr t h2
  | none =>
   rw [hr] at t
   obtain ⟨it', h1, h2⟩ := u_loop hcm E n [(S "item", .dat (rp r))] A (M ++ [r]) (.inr ⟨_, rfl⟩) (by lia) (le_d ‹_› rfl) hA (by rw [List.length_append, List.length_singleton]; exact le_s ‹_›)
   refine ⟨it', h1, ?_⟩
   rw [show uldR (r :: E) A M = uldR E A (M ++ [r]) from by rw [uldR, hr]]
   exact wh_next tr t h2
theorem u_call (r : Rec) (l k : List PyData) : callA TT r 201 [.ref 28, .ref 30] [] (s31 o l k) = bn2 (exsA r cxU fn201.body (s31 o l k ++ [AO.ns [(S "expected", AV.ref 28), (S "actual", AV.ref 30)]])) fun fl σ' => bnd (flV fl) fun v => ok v (setNth σ' 31 .junk) := by kernel_rfl
theorem u_s0 (l k : List PyData) : (up rec0 22).ex cxU u0 (s31 o l k ++ [AO.ns [(S "expected", AV.ref 28), (S "actual", AV.ref 30)]]) = some (.next, uW o [] l k [], true) := by kernel_rfl
theorem u_s2 (it : List (Str × AV)) (E A M : List PyData) : (up rec0 22).ex cxU u2 (uW o it E A M) = some (.ret (.ref 33), uW o it E A M ++ [AO.tuple [AV.ref 32, AV.ref 30]], true) := by kernel_rfl
theorem u_fin (it : List (Str × AV)) (E A M : List PyData) : setNth (uW o it E A M ++ [AO.tuple [AV.ref 32, AV.ref 30]]) 31 .junk = s31 o E A ++ [AO.junk, AO.list M, AO.tuple [AV.ref 32, AV.ref 30]] := by kernel_rfl
theorem u_all (hcm : calm (s31 o [] []) = false) (T T' : List Row) (h1 : T.length <= 900) (h2 : T'.length <= 900) : (up rec0 23).call 201 [.ref 28, .ref 30] [] (s31 o (rps T) (rps T')) = some (.ref 33, s31 o [] (rps (uld T T').2) ++ [AO.junk, AO.list (rps (uld T T').1), AO.tuple [AV.ref 32, AV.ref 30]], true) := by
 obtain ⟨it', _, h⟩ := u_loop o hcm T.reverse 1000 [] T' [] (.inl rfl) (by rw [List.length_reverse]; exact lt_c ‹_› rfl) (by rw [List.length_reverse]; assumption) h2 (by rw [List.length_reverse, List.length_nil]; exact le_0 ‹_› rfl)
 rw [List.reverse_reverse] at h
 have w : (up rec0 22).ex cxU (.While uT uB [] ⟨103, 4, 108, 32⟩) (uW o [] (rps T) (rps T') []) = some (.next, uW o it' [] (rps (uld T T').2) (rps (uld T T').1), true) := by
  rw [up_ex]; exact ex_while h
 rw [up_call, u_call, body201]
 refine bn2_of (exs_cons (u_s0 o _ _) (exs_cons w (exs_ret (u_s2 o _ _ _ _)))) ?_
 refine bnd_of (a := .ref 33) rfl ?_
 show ok (AV.ref 33) (setNth _ 31 AO.junk) = _
 rw [u_fin]
 exact ok_eq
end
theorem z201_31 {σ : St} {l k : List PyData} (hL0 : len σ = 31) (t1 : nth σ 28 = some (.list l)) (t2 : nth σ 30 = some (.list k)) (hc : calm σ = false) (hl : okT l = true) (hk : okT k = true) (hn : Nat.ble (len l) 900 = true) (hm : Nat.ble (len k) 900 = true) :
 (up rec0 23).call 201 [.ref 28, .ref 30] [] σ = some (.ref 33, setNth (setNth σ 28 (.list [])) 30 (.list (rps (uld (rowsD l) (rowsD k)).2)) ++ [.junk, .list (rps (uld (rowsD l) (rowsD k)).1), .tuple [.ref 32, .ref 30]], true) := by
 obtain ⟨e1, _⟩ := okT_inv hl
 obtain ⟨e2, _⟩ := okT_inv hk
 have n1 := Nat.le_of_ble_eq_true hn
 have n2 := Nat.le_of_ble_eq_true hm
 rw [len_eq] at n1 n2
 obtain ⟨o, rfl⟩ : ∃ o : Nat -> AO, σ = s31 o l k := shape hL0 fun o g => by
  unfold s31
  rw [at_of g t1, at_of g t2]
  rfl
 generalize rowsD l = T at e1 ⊢
 generalize rowsD k = T' at e2 ⊢
 subst e1; subst e2
 rw [rps_len] at n1 n2
 exact u_all o hc T T' n1 n2
theorem z3_le : LeW z3 (up rec0 23) where
 ev := fun ι ι ι ι ι h => nomatch h
 tr := fun ι ι ι ι ι h => nomatch h
 ex := fun ι ι ι ι ι h => nomatch h
 call := fun f vs ks σ v σ' h => by
  refine pk_el h fun e h => and_el e fun e1 e2 => ?_
  refine bnd_el h fun p h1 h => ?_
  refine pk_el h fun e3 h => and_el e3 fun e3 e4 => ?_
  refine pk_el h fun h3 h => ?_
  refine bnd_el h fun l t1 h => ?_
  refine bnd_el h fun k t2 h => ?_
  obtain ⟨rfl, rfl, hfl⟩ := sm_eq h
  rw [Nat.eq_of_beq_eq_true e1, isNil_inv e2, twoV_inv h1, rfIs_inv e3, rfIs_inv e4]
  exact and_el hfl fun f0 f => and_el f fun f1 f => and_el f fun f2 f => and_el f fun f3 f4 => ⟨_, z201_31 (Nat.eq_of_beq_eq_true h3) (lsO_inv t1) (lsO_inv t2) (by cases z : calm σ with | false => rfl | true => rw [z] at f0; exact ff_el f0) f1 f2 f3 f4, .refl _⟩
theorem z3_snd : SndAll 83 z3 := (SndAll.up (Nat.le_refl 60) (SndAll.zero 60) 23).of_leW z3_le
theorem call908 {r : Rec} {i : Nat} {σ : St} : callA TT r 908 [.ref i] [] σ = joinFn [.ref i] σ := by kernel_rfl
theorem z4_le : LeW z4 (up rec0 1) where
 ev := fun ι ι ι ι ι h => nomatch h
 tr := fun ι ι ι ι ι h => nomatch h
 ex := fun ι ι ι ι ι h => nomatch h
 call := fun f vs ks σ v σ' h => by
  refine pk_el h fun e h => and_el e fun e1 e2 => ?_
  refine bnd_el h fun u h1 h => ?_
  refine bnd_el h fun i h2 h => ?_
  refine bnd_el h fun l h3 h => ?_
  obtain ⟨rfl, rfl, hfl⟩ := sm_eq h
  have hi := lsO_inv h3
  rw [Nat.eq_of_beq_eq_true e1, isNil_inv e2, oneV_inv h1, refV_inv h2]
  refine ⟨_, ?_, .refl _⟩
  rw [up_call, call908]
  unfold okW at hfl
  rw [Bool.and_eq_true, Bool.and_eq_true] at hfl
  cases e : lineP l with
  | none => rw [e] at hfl; cases hfl.1
  | some y =>
   have hd : lineD l = y := by unfold lineD; rw [e]; rfl
   rw [hd] at hfl ⊢
   unfold lineP at e
   obtain ⟨xs, e1, e⟩ := bnd_some e
   obtain ⟨ys, e2, e⟩ := bnd_some e
   cases e
   exact bnd_of (oneV_one _) (bnd_of rfl (bnd_of h3 (bnd_of e1 (bnd_of e2 (chk_of hfl.2.1 (chk_of hfl.2.2 ok_eq))))))
theorem z4_snd : SndAll 61 z4 := (SndAll.up (Nat.le_refl 60) (SndAll.zero 60) 1).of_leW z4_le
theorem zA_snd : SndAll 116 zA := (z1_snd.le (by decide)).or (z2_snd.or ((z3_snd.le (by decide)).or (z4_snd.le (by decide))))
section
variable (o0 o1 o2 o3 o4 o5 o6 o7 o12 : AO)
noncomputable def base (f m : AO) (ls td : List PyData) : St := [o0, o1, o2, o3, o4, o5, o6, o7, f, m, AO.dict [(S "_headers", AV.ref 9)], AO.inst 190 10, o12, AO.list ls, AO.list td]
noncomputable def tail1 (l : List PyData) : St := [AO.junk, AO.list l]
noncomputable def tail2 (l G C : List PyData) : St := [AO.junk, AO.list l] ++ junks 11 ++ [AO.list [], AO.junk, AO.list C, AO.junk, AO.list G, AO.tuple [AV.ref 32, AV.ref 30]]
noncomputable abbrev fr0 (r : Nat) : AO := ns1 (AV.int (Int.ofNat r)) .unk .unk .unk .unk .unk .unk .unk
noncomputable abbrev fr1 (r : Nat) : AO := ns1 (AV.int (Int.ofNat r)) (.ref 16) .unk .unk .unk .unk .unk .unk
noncomputable abbrev fr2 (r : Nat) : AO := ns1 (AV.int (Int.ofNat r)) (.ref 16) (.ref 32) (.ref 30) .unk .unk .unk .unk
noncomputable abbrev fr3 (r : Nat) : AO := ns1 (AV.int (Int.ofNat r)) (.ref 16) (.ref 32) (.ref 30) (.ref 34) .unk .unk .unk
theorem x0 (r : Nat) (l ls td : List PyData) : (up zA 30).ex cx1 (b1 0) (base o0 o1 o2 o3 o4 o5 o6 o7 o12 (fr0 r) (AO.list l) ls td) = some (.next, base o0 o1 o2 o3 o4 o5 o6 o7 o12 (fr1 r) (AO.list l) ls td ++ tail1 l, (((((fit l && true) && true) && true) && true) && true)) := by kernel_rfl
theorem x1 (r : Nat) (l ls td : List PyData) : (up zA 30).ex cx1 (b1 1) (base o0 o1 o2 o3 o4 o5 o6 o7 o12 (fr1 r) (AO.list l) ls td ++ tail1 l) = some (.next, base o0 o1 o2 o3 o4 o5 o6 o7 o12 (fr1 r) (AO.list (rps (stepT (drOf r) (rowsD l)))) ls td ++ (tail1 l ++ junks 11), ((closedS 17 (base o0 o1 o2 o3 o4 o5 o6 o7 o12 (fr1 r) AO.junk ls td ++ tail1 l) && (okT l && Nat.blt r 54)) && true)) := by kernel_rfl
theorem x2 (r : Nat) (l l2 ls td : List PyData) : (up zA 30).ex cx1 (b1 2) (base o0 o1 o2 o3 o4 o5 o6 o7 o12 (fr1 r) (AO.list l2) ls td ++ (tail1 l ++ junks 11)) = some (.next, base o0 o1 o2 o3 o4 o5 o6 o7 o12 (fr2 r) (AO.list l2) ls td ++ tail2 l (rps (uld (rowsD l) (rowsD l2)).1) (rps (uld (rowsD l) (rowsD l2)).2), ((((fit l && true) && ((((((fit l2 && true) && true) && true) && true) && true) && true)) && (!calm (base o0 o1 o2 o3 o4 o5 o6 o7 o12 (fr1 r) (AO.list l2) ls td ++ (tail1 l ++ junks 11) ++ [AO.list l, AO.junk, AO.list l2]) && (okT l && (okT l2 && (Nat.ble (len l) 900 && Nat.ble (len l2) 900))))) && true)) := by kernel_rfl
theorem x3 (r : Nat) (l l2 G C ls td : List PyData) : (up zA 30).ex cx1 (b1 3) (base o0 o1 o2 o3 o4 o5 o6 o7 o12 (fr2 r) (AO.list l2) ls td ++ tail2 l G C) = some (.next, base o0 o1 o2 o3 o4 o5 o6 o7 o12 (fr3 r) (AO.list l2) ls td ++ (tail2 l G C ++ [AO.list []]), true) := by kernel_rfl
end
noncomputable def rows0 : List PyData := [rp (.b, .x), rp (.A, .i), rp (.c, .e), rp (.a, .e)]
noncomputable abbrev bs (s0 s4 s5 : List PyData) (f m : AO) (ls td : List PyData) : St := base (AO.junk) (AO.ns [(S "script", AV.dat (.list s0)), (S "rows", AV.ref 2), (S "draws", AV.ref 7)]) (AO.list rows0) (AO.list [PyData.int 11]) (AO.list s4) (AO.list s5) AO.junk AO.junk AO.junk f m ls td
noncomputable def ifT4 : Stmt -> Expr
 | .If t _ _ _ => t
 | _ => .Constant .none 0 ⟨0, 0, 0, 0⟩
noncomputable def posS : Stmt -> Pos
 | .If _ _ _ p => p
 | .For _ _ _ _ p => p
 | _ => ⟨0, 0, 0, 0⟩
theorem b14_eq : b1 4 = .If (ifT4 (b1 4)) (ifA' (b1 4)) [] (posS (b1 4)) := by kernel_rfl
theorem inF_eq : inF = .For (forT inF) (forIe inF) (forB inF) [] (posS inF) := by kernel_rfl
noncomputable def b4 (i : Nat) : Stmt := (nth (ifA' (b1 4)) i).getD noStmt
theorem a4_eq : ifA' (b1 4) = [b4 0, b4 1, inF] := by kernel_rfl
theorem upA_ex {n : Nat} {c : Cx} {e : Stmt} {σ : St} : (up zA (n + 1)).ex c e σ = exA TT (up zA n) c e σ := by kernel_rfl
noncomputable abbrev fr4 (r : Nat) (k : Kd) : AO := ns1 (AV.int (Int.ofNat r)) (.ref 16) (.ref 32) (.ref 30) (.ref 34) (.str k.s) .unk .unk
noncomputable def kW (k : Kd) (r : Row) (W : List PyData) : List PyData := match keq r.1.k k with | true => W ++ [.str r.1.s, .str r.2.s] | false => W
noncomputable def kWf (k : Kd) (r : Row) (W : List PyData) : Bool := match keq r.1.k k with | true => (((((fit W && true) && true) && true) && true) && true) | false => true
section
variable (s0 s4 s5 : List PyData)
theorem y_nil (r : Nat) (l l2 ls td : List PyData) : (up zA 30).ex cx1 (b1 4) (bs s0 s4 s5 (fr3 r) (AO.list l2) ls td ++ (tail2 l [] [] ++ [AO.list []])) = some (.next, bs s0 s4 s5 (fr3 r) (AO.list l2) ls td ++ (tail2 l [] [] ++ [AO.list [], AO.list [], AO.list []]), true) := by kernel_rfl!
theorem y_c1 (r : Nat) (d : PyData) (l l2 G C ls td : List PyData) : (up zA 29).tr cx1 (ifT4 (b1 4)) (bs s0 s4 s5 (fr3 r) (AO.list l2) ls td ++ (tail2 l (d :: G) C ++ [AO.list []])) = some (true, bs s0 s4 s5 (fr3 r) (AO.list l2) ls td ++ (tail2 l (d :: G) C ++ [AO.list [], AO.list (d :: (G ++ C)), AO.list []]), ((fit (d :: G) && (fit C && true)) && ((shp (.list (d :: (G ++ C))) && true) && true))) := by kernel_rfl!
theorem y_c2 (r : Nat) (d : PyData) (l l2 C ls td : List PyData) : (up zA 29).tr cx1 (ifT4 (b1 4)) (bs s0 s4 s5 (fr3 r) (AO.list l2) ls td ++ (tail2 l [] (d :: C) ++ [AO.list []])) = some (true, bs s0 s4 s5 (fr3 r) (AO.list l2) ls td ++ (tail2 l [] (d :: C) ++ [AO.list [], AO.list (d :: C), AO.list []]), ((fit (d :: C) && true) && ((shp (.list (d :: C)) && true) && true))) := by kernel_rfl!
theorem y_k1 (r : Nat) (n : Nm) (v : Str) (l l2 G C GC ls td : List PyData) : (up zA 29).ex cx1 (b4 0) (bs s0 s4 s5 (fr3 r) (AO.list l2) ls td ++ (tail2 l (.tuple [.str n.s, .str v] :: G) C ++ [AO.list [], AO.list GC, AO.list []])) = some (.next, bs s0 s4 s5 (fr4 r n.k) (AO.list l2) ls td ++ (tail2 l (.tuple [.str n.s, .str v] :: G) C ++ [AO.list [], AO.list GC, AO.list [], AO.list (.tuple [.str n.s, .str v] :: (G ++ C))]), (((((fit (PyData.tuple [.str n.s, .str v] :: G) && (fit C && true)) && (fit (PyData.tuple [.str n.s, .str v] :: (G ++ C)) && true)) && true) && true) && true)) := by
 cases n <;> kernel_rfl!
theorem y_k2 (r : Nat) (n : Nm) (v : Str) (l l2 C GC ls td : List PyData) : (up zA 29).ex cx1 (b4 0) (bs s0 s4 s5 (fr3 r) (AO.list l2) ls td ++ (tail2 l [] (.tuple [.str n.s, .str v] :: C) ++ [AO.list [], AO.list GC, AO.list []])) = some (.next, bs s0 s4 s5 (fr4 r n.k) (AO.list l2) ls td ++ (tail2 l [] (.tuple [.str n.s, .str v] :: C) ++ [AO.list [], AO.list GC, AO.list [], AO.list (.tuple [.str n.s, .str v] :: C)]), (((((fit (PyData.tuple [.str n.s, .str v] :: C) && true) && (fit (PyData.tuple [.str n.s, .str v] :: C) && true)) && true) && true) && true)) := by
 cases n <;> kernel_rfl!
theorem y_w (r : Nat) (k : Kd) (l l2 G C GC X ls td : List PyData) : (up zA 29).ex cx1 (b4 1) (bs s0 s4 s5 (fr4 r k) (AO.list l2) ls td ++ (tail2 l G C ++ [AO.list [], AO.list GC, AO.list [], AO.list X])) = some (.next, bs s0 s4 s5 (fr4 r k) (AO.list l2) ls td ++ (tail2 l G C ++ [AO.list [.str k.s], AO.list GC, AO.list [], AO.list X]), true) := by
 cases k <;> kernel_rfl!
noncomputable def stF (r : Nat) (k : Kd) (l2 G C GC X ls td W : List PyData) : St := bs s0 s4 s5 (fr4 r k) (AO.list l2) ls td ++ ([AO.junk, AO.junk] ++ junks 11 ++ [AO.list [], AO.junk, AO.list C, AO.junk, AO.list G, AO.tuple [AV.ref 32, AV.ref 30], AO.list W, AO.list GC, AO.list [], AO.list X])
theorem y_t (r : Nat) (k : Kd) (q : Row) (l2 G C GC X ls td W : List PyData) : forA (up zA 28) cx1 (forT inF) (forB inF) (loopN (forT inF) (forB inF)) 38 [rp q] (stF s0 s4 s5 r k l2 G C GC X ls td W) = some ((), stF s0 s4 s5 r k l2 G C GC X ls td (kW k q W), kWf k q W) := by
 obtain ⟨n, v⟩ := q
 cases n <;> cases k <;> cases v <;> kernel_rfl!
end
section
variable (s0 s4 s5 : List PyData)
theorem x5n (r : Nat) (l l2 ls td : List PyData) : (up zA 30).ex cx1 (b1 5) (bs s0 s4 s5 (fr3 r) (AO.list l2) ls td ++ (tail2 l [] [] ++ [AO.list [], AO.list [], AO.list []])) = some (.next, bs s0 s4 s5 (fr3 r) (AO.list l2) (ls ++ [.str (lineD [])]) td ++ (tail2 l [] [] ++ [AO.list [], AO.list [], AO.list []]), ((fit ls && true) && true)) := by kernel_rfl!
theorem x5c (r : Nat) (k : Kd) (l l2 G C GC X W ls td : List PyData) : (up zA 30).ex cx1 (b1 5) (bs s0 s4 s5 (fr4 r k) (AO.list l2) ls td ++ (tail2 l G C ++ [AO.list W, AO.list GC, AO.list [], AO.list X])) = some (.next, bs s0 s4 s5 (fr4 r k) (AO.list l2) (ls ++ [.str (lineD W)]) td ++ (tail2 l G C ++ [AO.list W, AO.list GC, AO.list [], AO.list X]), (((okW W && true) && (fit ls && true)) && true)) := by kernel_rfl!
noncomputable def tail3 (l G C : List PyData) : St := [AO.junk, AO.list l] ++ junks 11 ++ [AO.list [], AO.junk, AO.frl C, AO.junk, AO.frl G, AO.tuple [AV.ref 32, AV.ref 30]]
theorem x6n (r : Nat) (l l2 ls td : List PyData) : (up zA 30).ex cx1 (b1 6) (bs s0 s4 s5 (fr3 r) (AO.list l2) ls td ++ (tail2 l [] [] ++ [AO.list [], AO.list [], AO.list []])) = some (.next, bs s0 s4 s5 (fr3 r) (AO.list l2) ls (td ++ [.tuple [.list [], .list []]]) ++ (tail3 l [] [] ++ [AO.list [], AO.list [], AO.list [], AO.junk]), ((fit td && true) && true)) := by kernel_rfl!
theorem x6c (r : Nat) (k : Kd) (l l2 G C GC X W ls td : List PyData) : (up zA 30).ex cx1 (b1 6) (bs s0 s4 s5 (fr4 r k) (AO.list l2) ls td ++ (tail2 l G C ++ [AO.list W, AO.list GC, AO.list [], AO.list X])) = some (.next, bs s0 s4 s5 (fr4 r k) (AO.list l2) ls (td ++ [.tuple [.list G, .list C]]) ++ (tail3 l G C ++ [AO.list W, AO.list GC, AO.list [], AO.list X, AO.junk]), ((fit td && true) && true)) := by kernel_rfl!
noncomputable abbrev frB : AO := ns1 .unk .unk .unk .unk .unk .unk .unk .unk
theorem cut3 (r : Nat) (l l2 G C ls td : List PyData) (e : St) : blur cx1 (loopN (forT loop1) (forB loop1)) (cutS 15 15 (bs s0 s4 s5 (fr3 r) (AO.list l2) ls td ++ (tail3 l G C ++ e))) = bs s0 s4 s5 frB (AO.list l2) ls td := by kernel_rfl!
theorem cut4 (r : Nat) (k : Kd) (l l2 G C ls td : List PyData) (e : St) : blur cx1 (loopN (forT loop1) (forB loop1)) (cutS 15 15 (bs s0 s4 s5 (fr4 r k) (AO.list l2) ls td ++ (tail3 l G C ++ e))) = bs s0 s4 s5 frB (AO.list l2) ls td := by kernel_rfl!
theorem put1 (r : Nat) (l ls td : List PyData) : storeT cx1 (forT loop1) (ofP (.int (Int.ofNat r))) (bs s0 s4 s5 frB (AO.list l) ls td) = some (bs s0 s4 s5 (fr0 r) (AO.list l) ls td) := by kernel_rfl!
theorem body1 : forB loop1 = [b1 0, b1 1, b1 2, b1 3, b1 4, b1 5, b1 6] := by kernel_rfl!
theorem itF (r : Nat) (k : Kd) (l l2 G C GC X W ls td : List PyData) : (up zA 28).ev cx1 (forIe inF) (bs s0 s4 s5 (fr4 r k) (AO.list l2) ls td ++ (tail2 l G C ++ [AO.list W, AO.list GC, AO.list [], AO.list X])) = some (.ref 16, bs s0 s4 s5 (fr4 r k) (AO.list l2) ls td ++ (tail2 l G C ++ [AO.list W, AO.list GC, AO.list [], AO.list X]), true) := by kernel_rfl!
theorem itA (r : Nat) (k : Kd) (l l2 G C GC X W ls td : List PyData) : iterA (.ref 16) (bs s0 s4 s5 (fr4 r k) (AO.list l2) ls td ++ (tail2 l G C ++ [AO.list W, AO.list GC, AO.list [], AO.list X])) = some (l, some 16) := by kernel_rfl!
theorem itB (r : Nat) (k : Kd) (l l2 G C GC X W ls td : List PyData) : blur cx1 (loopN (forT inF) (forB inF)) (lockA (some 16) (bs s0 s4 s5 (fr4 r k) (AO.list l2) ls td ++ (tail2 l G C ++ [AO.list W, AO.list GC, AO.list [], AO.list X]))) = stF s0 s4 s5 r k l2 G C GC X ls td W := by kernel_rfl!
theorem itU (r : Nat) (k : Kd) (l l2 G C GC X W ls td : List PyData) : unlockA (some 16) l (stF s0 s4 s5 r k l2 G C GC X ls td W) = bs s0 s4 s5 (fr4 r k) (AO.list l2) ls td ++ (tail2 l G C ++ [AO.list W, AO.list GC, AO.list [], AO.list X]) := by kernel_rfl!
theorem itL (r : Nat) (k : Kd) (l l2 G C GC X W ls td : List PyData) : len (bs s0 s4 s5 (fr4 r k) (AO.list l2) ls td ++ (tail2 l G C ++ [AO.list W, AO.list GC, AO.list [], AO.list X])) = 38 := by kernel_rfl!
theorem itN : notSet (forIe inF) = true /\ isRange (forIe inF) = none /\ isItems (forIe inF) = none := ⟨by kernel_rfl!, by kernel_rfl!, by kernel_rfl!⟩
theorem y_ts (r : Nat) (k : Kd) (l2 G C GC X ls td : List PyData) : ∀ (T : List Row) (W : List PyData), W.length + 2 * T.length <= 10000 -> forA (up zA 28) cx1 (forT inF) (forB inF) (loopN (forT inF) (forB inF)) 38 (rps T) (stF s0 s4 s5 r k l2 G C GC X ls td W) = some ((), stF s0 s4 s5 r k l2 G C GC X ls td (W ++ flatR (rowsK k T)), true)
 | [], W, _ => by rw [show W ++ flatR (rowsK k []) = W from List.append_nil W]; kernel_rfl!
 | q :: T, W, h => by
  rw [List.length_cons] at h
  have hf : kWf k q W = true := by
   unfold kWf
   cases keq q.1.k k
   · rfl
   · dsimp only; rw [fit_of (le_d ‹_› rfl)]; rfl
  have t := y_t s0 s4 s5 r k q l2 G C GC X ls td W
  rw [hf] at t
  refine forA_cons t ?_
  have hW : (kW k q W).length + 2 * T.length <= 10000 := by
   unfold kW
   cases keq q.1.k k
   · dsimp only; lia
   · dsimp only; rw [List.length_append, List.length_cons, List.length_cons, List.length_nil]; lia
  have u := y_ts r k l2 G C GC X ls td T (kW k q W) hW
  have e : kW k q W ++ flatR (rowsK k T) = W ++ flatR (rowsK k (q :: T)) := by
   unfold kW
   show _ = W ++ flatR (match keq q.1.k k with | true => q :: rowsK k T | false => rowsK k T)
   cases keq q.1.k k
   · rfl
   · dsimp only [flatR]; rw [List.append_assoc]; rfl
  rw [e] at u
  exact u
theorem y_for (r : Nat) (k : Kd) (T : List Row) (l2 G C GC X W ls td : List PyData) (h : W.length + 2 * T.length <= 10000) : (up zA 29).ex cx1 inF (bs s0 s4 s5 (fr4 r k) (AO.list l2) ls td ++ (tail2 (rps T) G C ++ [AO.list W, AO.list GC, AO.list [], AO.list X])) = some (.next, bs s0 s4 s5 (fr4 r k) (AO.list l2) ls td ++ (tail2 (rps T) G C ++ [AO.list (W ++ flatR (rowsK k T)), AO.list GC, AO.list [], AO.list X]), true) := by
 rw [upA_ex, inF_eq]
 refine forSt_of itN.1 itN.2.1 itN.2.2 (itF s0 s4 s5 r k (rps T) l2 G C GC X W ls td) (itA s0 s4 s5 r k (rps T) l2 G C GC X W ls td) (fit_of (by rw [rps_len]; lia)) (itB s0 s4 s5 r k (rps T) l2 G C GC X W ls td) ?_ (itU s0 s4 s5 r k (rps T) l2 G C GC X (W ++ flatR (rowsK k T)) ls td)
 rw [itL]
 exact y_ts s0 s4 s5 r k l2 G C GC X ls td T W h
noncomputable def kdOf : List Row -> Option Kd
 | [] => none
 | q :: _ => some q.1.k
noncomputable def wdT (p : List Row × List Row) (T : List Row) : Option (Kd × List Row) := match kdOf (p.1 ++ p.2) with
 | none => none
 | some k => some (k, rowsK k T)
theorem rps_app : ∀ a b : List Row, rps (a ++ b) = rps a ++ rps b
 | [], b => rfl
 | q :: a, b => congrArg (rp q :: ·) (rps_app a b)
theorem exIf {T : Tp} {r : Rec} {c : Cx} {t : Expr} {a b : List Stmt} {p : Pos} {σ σ₁ : St} {tv : Bool} {f : Fl} {σ2 : St} (h1 : r.tr c t σ = some (tv, σ₁, true)) (h2 : ifS r c a b tv σ₁ = some (f, σ2, true)) : exA T r c (.If t a b p) σ = some (f, σ2, true) := @ex_if T r c t a b p σ σ₁ tv f σ2 h1 h2
theorem y_if (r : Nat) (q : Row) (g c T : List Row) (l2 ls td : List PyData) (e : ∃ R, g ++ c = q :: R) (hg : g.length <= 1000) (hc : c.length <= 1000) (hT : T.length <= 1000) : (up zA 30).ex cx1 (b1 4) (bs s0 s4 s5 (fr3 r) (AO.list l2) ls td ++ (tail2 (rps T) (rps g) (rps c) ++ [AO.list []])) = some (.next, bs s0 s4 s5 (fr4 r q.1.k) (AO.list l2) ls td ++ (tail2 (rps T) (rps g) (rps c) ++ [AO.list (wds (some (q.1.k, rowsK q.1.k T))), AO.list (rps g ++ rps c), AO.list [], AO.list (rps g ++ rps c)]), true) := by
 obtain ⟨R, e⟩ := e
 rw [upA_ex, b14_eq]
 have hs : shp (.list (rps g ++ rps c)) = true := by rw [<- rps_app]; exact shp_rps _
 have f1 : fit (rps g) = true := fit_of (by rw [rps_len]; exact le_c ‹_› rfl)
 have f2 : fit (rps c) = true := fit_of (by rw [rps_len]; exact le_c ‹_› rfl)
 have f3 : fit (rps g ++ rps c) = true := fit_of (by rw [<- rps_app, rps_len, List.length_append]; exact le_2 ‹_› ‹_› rfl)
 have last := y_for s0 s4 s5 r q.1.k T l2 (rps g) (rps c) (rps g ++ rps c) (rps g ++ rps c) [.str q.1.k.s] ls td (by rw [List.length_cons, List.length_nil]; lia)
 have w2 := y_w s0 s4 s5 r q.1.k (rps T) l2 (rps g) (rps c) (rps g ++ rps c) (rps g ++ rps c) ls td
 cases g with
 | cons q1 g =>
  obtain ⟨rfl, _⟩ := List.cons.inj e
  have c1 := y_c1 s0 s4 s5 r (rp q1) (rps T) l2 (rps g) (rps c) ls td
  have k1 := y_k1 s0 s4 s5 r q1.1 q1.2.s (rps T) l2 (rps g) (rps c) (rps (q1 :: g) ++ rps c) ls td
  change fit (rp q1 :: rps g) = true at f1
  change shp (.list (rp q1 :: (rps g ++ rps c))) = true at hs
  change fit (rp q1 :: (rps g ++ rps c)) = true at f3
  change _ = some (_, _, (((((fit (rp q1 :: rps g) && (fit (rps c) && true)) && (fit (rp q1 :: (rps g ++ rps c)) && true)) && true) && true) && true)) at k1
  rw [f1, f2, hs] at c1
  rw [f1, f2, f3] at k1
  refine exIf c1 ?_
  show exsA (up zA 29) cx1 (ifA' (b1 4)) _ = _
  rw [a4_eq]
  exact exs_cons k1 (exs_cons w2 (exs_cons last exs_nil))
 | nil =>
  cases c with
  | nil => cases e
  | cons q1 c =>
   obtain ⟨rfl, _⟩ := List.cons.inj e
   have c1 := y_c2 s0 s4 s5 r (rp q1) (rps T) l2 (rps c) ls td
   have k1 := y_k2 s0 s4 s5 r q1.1 q1.2.s (rps T) l2 (rps c) (rps [] ++ rps (q1 :: c)) ls td
   change fit (rp q1 :: rps c) = true at f2
   change shp (.list (rp q1 :: rps c)) = true at hs
   change _ = some (_, _, (((((fit (rp q1 :: rps c) && true) && (fit (rp q1 :: rps c) && true)) && true) && true) && true)) at k1
   rw [f2, hs] at c1
   rw [f2] at k1
   refine exIf c1 ?_
   show exsA (up zA 29) cx1 (ifA' (b1 4)) _ = _
   rw [a4_eq]
   exact exs_cons k1 (exs_cons w2 (exs_cons last exs_nil))
end
structure Wok (w : Str) : Prop where
 of : ∃ y, look w quotTab = some y /\ y.cps.toList.length <= 12
noncomputable def wokB (w : Str) : Bool := match look w quotTab with | some y => Nat.ble (len y.cps.toList) 12 | none => false
theorem wok_of {w : Str} (h : wokB w = true) : Wok w := by
 unfold wokB at h
 cases e : look w quotTab with
 | none => rw [e] at h; cases h
 | some y => rw [e] at h; dsimp only at h; rw [len_eq] at h; exact ⟨y, e, Nat.le_of_ble_eq_true h⟩
theorem Nm.wok : ∀ n : Nm, Wok n.s
 | .a => wok_of (by kernel_rfl!)
 | .A => wok_of (by kernel_rfl!)
 | .b => wok_of (by kernel_rfl!)
 | .B => wok_of (by kernel_rfl!)
 | .c => wok_of (by kernel_rfl!)
 | .C => wok_of (by kernel_rfl!)
theorem Kd.wok : ∀ n : Kd, Wok n.s
 | .a => wok_of (by kernel_rfl!)
 | .b => wok_of (by kernel_rfl!)
 | .c => wok_of (by kernel_rfl!)
theorem Vl.wok : ∀ n : Vl, Wok n.s
 | .e => wok_of (by kernel_rfl!)
 | .i => wok_of (by kernel_rfl!)
 | .x => wok_of (by kernel_rfl!)
noncomputable def flatS : List Row -> List Str
 | [] => []
 | r :: l => r.1.s :: r.2.s :: flatS l
noncomputable def wdS : Option (Kd × List Row) -> List Str
 | none => []
 | some p => p.1.s :: flatS p.2
noncomputable def strL : List Str -> List PyData
 | [] => []
 | x :: l => .str x :: strL l
theorem flat_eq : ∀ l : List Row, flatR l = strL (flatS l)
 | [] => rfl
 | r :: l => congrArg (fun t => PyData.str r.1.s :: PyData.str r.2.s :: t) (flat_eq l)
theorem wds_eq : ∀ o, wds o = strL (wdS o)
 | none => rfl
 | some p => congrArg (PyData.str p.1.s :: ·) (flat_eq p.2)
theorem strsOf_L : ∀ l, strsOf (strL l) = some l
 | [] => rfl
 | x :: l => bnd_of (a := x) rfl (bnd_of (strsOf_L l) rfl)
theorem strL_len : ∀ l, (strL l).length = l.length
 | [] => rfl
 | x :: l => congrArg (· + 1) (strL_len l)
theorem flatS_len : ∀ l, (flatS l).length = 2 * l.length
 | [] => rfl
 | x :: l => by show (flatS l).length + 1 + 1 = 2 * (l.length + 1); rw [flatS_len l]; lia
theorem flatS_wok : ∀ (l : List Row) (w : Str), w ∈ flatS l -> Wok w
 | [], _, h => nomatch h
 | r :: l, w, h => by
  rcases List.mem_cons.1 h with rfl | h
  · exact r.1.wok
  · rcases List.mem_cons.1 h with rfl | h
    · exact r.2.wok
    · exact flatS_wok l w h
theorem wdS_wok : ∀ (o : Option (Kd × List Row)) (w : Str), w ∈ wdS o -> Wok w
 | none, _, h => nomatch h
 | some p, w, h => by
  rcases List.mem_cons.1 h with rfl | h
  · exact p.1.wok
  · exact flatS_wok _ w h
theorem quotW : ∀ ws : List Str, (∀ w, w ∈ ws -> Wok w) -> ∃ ys, quots ws = some ys /\ ys.length = ws.length /\ ∀ y : Str, y ∈ ys -> y.cps.toList.length <= 12
 | [], _ => ⟨[], rfl, rfl, fun ι h => nomatch h⟩
 | w :: ws, h => by
  obtain ⟨y, hy, hl⟩ := (h w (List.mem_cons_self ..)).of
  obtain ⟨ys, h1, h2, h3⟩ := quotW ws fun x m => h x (List.mem_cons_of_mem _ m)
  refine ⟨y :: ys, ?_, congrArg (· + 1) h2, fun z m => ?_⟩
  · show bnd (look w quotTab) _ = _
    exact bnd_of hy (bnd_of h1 rfl)
  · rcases List.mem_cons.1 m with rfl | m
    · exact hl
    · exact h3 z m
theorem joinL_len : ∀ ys : List Str, (∀ y : Str, y ∈ ys -> y.cps.toList.length <= 12) -> (joinL s_space ys).cps.toList.length <= 13 * ys.length
 | [], _ => Nat.zero_le _
 | [y], h => by have := h y (List.mem_cons_self ..); show y.cps.toList.length <= 13; exact le_c ‹_› rfl
 | y :: z :: ys, h => by
  have h1 := h y (List.mem_cons_self ..)
  have h2 := joinL_len (z :: ys) fun x m => h x (List.mem_cons_of_mem _ m)
  have e : (joinL s_space (y :: z :: ys)).cps.toList.length = y.cps.toList.length + (1 + (joinL s_space (z :: ys)).cps.toList.length) := by
   show (cat y (cat s_space (joinL s_space (z :: ys)))).cps.toList.length = _
   simp [cat, s_space]
   rfl
  rw [e]
  simp only [List.length_cons] at h2 ⊢
  lia
theorem rowsK_len (k : Kd) : ∀ l, (rowsK k l).length <= l.length
 | [] => Nat.le_refl _
 | q :: l => by
  have := rowsK_len k l
  show (match keq q.1.k k with | true => q :: rowsK k l | false => rowsK k l).length <= l.length + 1
  cases keq q.1.k k
  · dsimp only; exact Nat.le_succ_of_le ‹_›
  · dsimp only [List.length_cons]; exact Nat.succ_le_succ ‹_›
theorem okW_wds (o : Option (Kd × List Row)) (h : (wdS o).length <= 5000) : okW (wds o) = true := by
 obtain ⟨ys, h1, h2, h3⟩ := quotW (wdS o) (wdS_wok o)
 have e : lineP (wds o) = some (joinL s_space ys) := by
  unfold lineP
  rw [wds_eq]
  exact bnd_of (strsOf_L _) (bnd_of h1 rfl)
 have e2 : lineD (wds o) = joinL s_space ys := by unfold lineD; rw [e]; rfl
 unfold okW
 rw [e, e2, fit_of (by rw [wds_eq, strL_len]; exact le_c ‹_› rfl)]
 have := joinL_len ys h3
 show small _ = true
 unfold small
 rw [len_eq]
 exact Nat.ble_eq_true_of_le (by lia)
section
variable (s0 s4 s5 : List PyData)
theorem cl17 (r : Nat) (l ls td : List PyData) : closedS 17 (bs s0 s4 s5 (fr1 r) AO.junk ls td ++ tail1 l) = true := by kernel_rfl!
theorem cm31 (r : Nat) (l l2 ls td : List PyData) : calm (bs s0 s4 s5 (fr1 r) (AO.list l2) ls td ++ (tail1 l ++ junks 11) ++ [AO.list l, AO.junk, AO.list l2]) = false := by kernel_rfl!
set_option tactic.hygienic true in
theorem uldR_len : ∀ E A M, (uldR E A M).1.length <= M.length + E.length /\ (uldR E A M).2.length <= A.length
 | [], A, M => ⟨Nat.le_refl _, Nat.le_refl _⟩
 | q :: E, A, M => by
  unfold uldR
  split
  · rename_i A' e
    have h := uldR_len E A' M
    have := remR_len e
    simp only [List.length_cons]
    lia
  · have h := uldR_len E A (M ++ [q])
    simp only [List.length_cons, List.length_append, List.length_nil] at h ⊢
    lia
theorem uld_len (T T' : List Row) : (uld T T').1.length <= T.length /\ (uld T T').2.length <= T'.length := by
 have := uldR_len T.reverse T' []
 rw [List.length_reverse, List.length_nil, Nat.zero_add] at this
 exact this
theorem stepT_len (d : Dr) (T : List Row) : (stepT d T).length <= T.length + 1 := by
 unfold stepT
 have := keepK_len d.2.1.k T
 split
 · rw [List.length_append, List.length_cons, List.length_nil]; exact Nat.succ_le_succ ‹_›
 · rw [List.length_append, List.length_cons, List.length_nil]; lia
 · exact Nat.le_succ_of_le ‹_›
theorem forA_one {r : Rec} {c : Cx} {t : Expr} {b : List Stmt} {xs : List Str} {m : Nat} {d : PyData} {σ σa σb σ₁ : St} (h1 : storeT c t (ofP d) σ = some σa) (h2 : exsA r c b σa = some (.next, σb, true)) (h3 : blur c xs (cutS m m σb) = σ₁) : forA r c t b xs m [d] σ = some ((), σ₁, true) := by
 subst h3
 exact bnd_of h1 (bn2_of h2 ok_eq)
theorem turn1 (r : Nat) (hr : r < 54) (T : List Row) (ls td : List PyData) (hT : T.length <= 800) (h1 : ls.length <= 800) (h2 : td.length <= 800) :
 forA (up zA 30) cx1 (forT loop1) (forB loop1) (loopN (forT loop1) (forB loop1)) 15 [.int (Int.ofNat r)] (bs s0 s4 s5 frB (AO.list (rps T)) ls td) = some ((), bs s0 s4 s5 frB (AO.list (rps (stepT (drOf r) T))) (ls ++ [.str (lineD (wds (wdT (uld T (stepT (drOf r) T)) T)))]) (td ++ [.tuple [.list (rps (uld T (stepT (drOf r) T)).1), .list (rps (uld T (stepT (drOf r) T)).2)]]), true) := by
 have hS := stepT_len (drOf r) T
 have hU := uld_len T (stepT (drOf r) T)
 have a0 := x0 (AO.junk) (AO.ns [(S "script", AV.dat (.list s0)), (S "rows", AV.ref 2), (S "draws", AV.ref 7)]) (AO.list rows0) (AO.list [PyData.int 11]) (AO.list s4) (AO.list s5) AO.junk AO.junk AO.junk r (rps T) ls td
 have a1 := x1 (AO.junk) (AO.ns [(S "script", AV.dat (.list s0)), (S "rows", AV.ref 2), (S "draws", AV.ref 7)]) (AO.list rows0) (AO.list [PyData.int 11]) (AO.list s4) (AO.list s5) AO.junk AO.junk AO.junk r (rps T) ls td
 have a2 := x2 (AO.junk) (AO.ns [(S "script", AV.dat (.list s0)), (S "rows", AV.ref 2), (S "draws", AV.ref 7)]) (AO.list rows0) (AO.list [PyData.int 11]) (AO.list s4) (AO.list s5) AO.junk AO.junk AO.junk r (rps T) (rps (stepT (drOf r) T)) ls td
 have a3 := x3 (AO.junk) (AO.ns [(S "script", AV.dat (.list s0)), (S "rows", AV.ref 2), (S "draws", AV.ref 7)]) (AO.list rows0) (AO.list [PyData.int 11]) (AO.list s4) (AO.list s5) AO.junk AO.junk AO.junk r (rps T) (rps (stepT (drOf r) T)) (rps (uld T (stepT (drOf r) T)).1) (rps (uld T (stepT (drOf r) T)).2) ls td
 have f1 : fit (rps T) = true := fit_of (by rw [rps_len]; exact le_c ‹_› rfl)
 have f2 : fit (rps (stepT (drOf r) T)) = true := fit_of (by rw [rps_len]; lia)
 have n1 : Nat.ble (len (rps T)) 900 = true := by rw [len_eq, rps_len]; exact Nat.ble_eq_true_of_le (le_c ‹_› rfl)
 have n2 : Nat.ble (len (rps (stepT (drOf r) T))) 900 = true := by rw [len_eq, rps_len]; exact Nat.ble_eq_true_of_le (by lia)
 have hb : Nat.blt r 54 = true := Nat.ble_eq_true_of_le hr
 rw [f1] at a0
 rw [cl17, okT_rps (T := T) (le_c ‹_› rfl), hb, rowsD_rps] at a1
 rw [cm31, okT_rps (T := T) (le_c ‹_› rfl), okT_rps (T := stepT (drOf r) T) (by lia), n1, n2, f1, f2, rowsD_rps, rowsD_rps] at a2
 have fl : fit ls = true := fit_of (le_c ‹_› rfl)
 have ft : fit td = true := fit_of (le_c ‹_› rfl)
 generalize stepT (drOf r) T = T2 at *
 generalize e : uld T T2 = p at *
 obtain ⟨g, c⟩ := p
 dsimp only at *
 have p1 := put1 s0 s4 s5 r (rps T) ls td
 cases hgc : g ++ c with
 | nil =>
  obtain ⟨rfl, rfl⟩ := List.append_eq_nil_iff.1 hgc
  have a4 := y_nil s0 s4 s5 r (rps T) (rps T2) ls td
  have a5 := x5n s0 s4 s5 r (rps T) (rps T2) ls td
  have a6 := x6n s0 s4 s5 r (rps T) (rps T2) (ls ++ [.str (lineD [])]) td
  rw [fl] at a5
  rw [ft] at a6
  have E := exs_cons a0 (exs_cons a1 (exs_cons a2 (exs_cons a3 (exs_cons a4 (exs_cons a5 (exs_cons a6 exs_nil))))))
  rw [<- body1] at E
  refine forA_one p1 E ?_
  rw [cut3]
  first | done | rfl
 | cons q R =>
  have a4 := y_if s0 s4 s5 r q g c T (rps T2) ls td ⟨R, hgc⟩ (by lia) (by lia) (le_c ‹_› rfl)
  have a5 := x5c s0 s4 s5 r q.1.k (rps T) (rps T2) (rps g) (rps c) (rps g ++ rps c) (rps g ++ rps c) (wds (some (q.1.k, rowsK q.1.k T))) ls td
  have a6 := x6c s0 s4 s5 r q.1.k (rps T) (rps T2) (rps g) (rps c) (rps g ++ rps c) (rps g ++ rps c) (wds (some (q.1.k, rowsK q.1.k T))) (ls ++ [.str (lineD (wds (some (q.1.k, rowsK q.1.k T))))]) td
  have ew : wdT (g, c) T = some (q.1.k, rowsK q.1.k T) := by unfold wdT; rw [hgc]; rfl
  rw [okW_wds _ (by show (flatS (rowsK q.1.k T)).length + 1 <= 5000; rw [flatS_len]; have := rowsK_len q.1.k T; lia), fl] at a5
  rw [ft] at a6
  rw [ew]
  have E := exs_cons a0 (exs_cons a1 (exs_cons a2 (exs_cons a3 (exs_cons a4 (exs_cons a5 (exs_cons a6 exs_nil))))))
  rw [<- body1] at E
  refine forA_one p1 E ?_
  rw [cut4]
  first | done | rfl
noncomputable def tabs : List Nat -> List Row -> List Row
 | [], T => T
 | r :: l, T => tabs l (stepT (drOf r) T)
noncomputable def toldR : List Nat -> List Row -> List (List Row × List Row)
 | [], _ => []
 | r :: l, T => uld T (stepT (drOf r) T) :: toldR l (stepT (drOf r) T)
noncomputable def lineR : List Nat -> List Row -> List (Option (Kd × List Row))
 | [], _ => []
 | r :: l, T => wdT (uld T (stepT (drOf r) T)) T :: lineR l (stepT (drOf r) T)
noncomputable def toldD : List (List Row × List Row) -> List PyData
 | [] => []
 | p :: l => .tuple [.list (rps p.1), .list (rps p.2)] :: toldD l
noncomputable def linesD : List (Option (Kd × List Row)) -> List PyData
 | [] => []
 | o :: l => .str (lineD (wds o)) :: linesD l
noncomputable def intsD : List Nat -> List PyData
 | [] => []
 | r :: l => .int (Int.ofNat r) :: intsD l
theorem turns1 : ∀ (l : List Nat) (T : List Row) (ls td : List PyData), (∀ r, r ∈ l -> r < 54) -> T.length + l.length <= 800 -> ls.length + l.length <= 800 -> td.length + l.length <= 800 ->
 forA (up zA 30) cx1 (forT loop1) (forB loop1) (loopN (forT loop1) (forB loop1)) 15 (intsD l) (bs s0 s4 s5 frB (AO.list (rps T)) ls td) = some ((), bs s0 s4 s5 frB (AO.list (rps (tabs l T))) (ls ++ linesD (lineR l T)) (td ++ toldD (toldR l T)), true)
 | [], T, ls, td, _, _, _, _ => by
  rw [show ls ++ linesD (lineR [] T) = ls from List.append_nil ls, show td ++ toldD (toldR [] T) = td from List.append_nil td]
  kernel_rfl!
 | r :: l, T, ls, td, h, h1, h2, h3 => by
  simp only [List.length_cons] at h1 h2 h3
  have t := turn1 s0 s4 s5 r (h r (List.mem_cons_self ..)) T ls td (le_d ‹_› rfl) (le_d ‹_› rfl) (le_d ‹_› rfl)
  refine forA_cons t ?_
  have hS := stepT_len (drOf r) T
  have u := turns1 l (stepT (drOf r) T) (ls ++ [.str (lineD (wds (wdT (uld T (stepT (drOf r) T)) T)))]) (td ++ [.tuple [.list (rps (uld T (stepT (drOf r) T)).1), .list (rps (uld T (stepT (drOf r) T)).2)]]) (fun x m => h x (List.mem_cons_of_mem _ m)) (by lia) (by rw [List.length_append, List.length_cons, List.length_nil]; exact le_s ‹_›) (by rw [List.length_append, List.length_cons, List.length_nil]; exact le_s ‹_›)
  rw [List.append_assoc, List.append_assoc] at u
  exact u
end
section
variable (s0 s4 s5 : List PyData)
noncomputable abbrev st1 (f : AO) (dr t ls td : List PyData) : St := [AO.junk, AO.ns [(S "script", AV.dat (.list s0)), (S "rows", AV.ref 2), (S "draws", AV.ref 7)], AO.list rows0, AO.list [PyData.int 11], AO.list s4, AO.list s5, AO.junk, AO.list dr, f, AO.list t, AO.dict [(S "_headers", AV.ref 9)], AO.inst 190 10, AO.junk, AO.list ls, AO.list td]
noncomputable abbrev fr937 : AO := AO.ns [(S "rows", AV.ref 2), (S "draws", AV.ref 7), (S "table", AV.ref 11), (S "lines", AV.ref 13), (S "told", AV.ref 14)]
theorem l1_eq : loop1 = .For (forT loop1) (forIe loop1) (forB loop1) [] (posS loop1) := by kernel_rfl!
theorem l1_N : notSet (forIe loop1) = true /\ isRange (forIe loop1) = none /\ isItems (forIe loop1) = none := ⟨by kernel_rfl!, by kernel_rfl!, by kernel_rfl!⟩
theorem l1_it (dr t ls td : List PyData) : (up zA 30).ev cx1 (forIe loop1) (st1 s0 s4 s5 fr937 dr t ls td) = some (.ref 7, st1 s0 s4 s5 fr937 dr t ls td, true) := by kernel_rfl!
theorem l1_A (dr t ls td : List PyData) : iterA (.ref 7) (st1 s0 s4 s5 fr937 dr t ls td) = some (dr, some 7) := by kernel_rfl!
theorem l1_B (dr t ls td : List PyData) : blur cx1 (loopN (forT loop1) (forB loop1)) (lockA (some 7) (st1 s0 s4 s5 fr937 dr t ls td)) = bs s0 s4 s5 frB (AO.list t) ls td := by kernel_rfl!
theorem l1_U (dr t ls td : List PyData) : unlockA (some 7) dr (bs s0 s4 s5 frB (AO.list t) ls td) = st1 s0 s4 s5 frB dr t ls td := by kernel_rfl!
theorem l1_L (dr t ls td : List PyData) : len (st1 s0 s4 s5 fr937 dr t ls td) = 15 := by kernel_rfl!
theorem intsD_len : ∀ l, (intsD l).length = l.length
 | [] => rfl
 | x :: l => congrArg (· + 1) (intsD_len l)
theorem loop1_ex (l : List Nat) (T : List Row) (h : ∀ r, r ∈ l -> r < 54) (h1 : T.length + l.length <= 800) : (up zA 31).ex cx1 loop1 (st1 s0 s4 s5 fr937 (intsD l) (rps T) [] []) = some (.next, st1 s0 s4 s5 frB (intsD l) (rps (tabs l T)) (linesD (lineR l T)) (toldD (toldR l T)), true) := by
 rw [upA_ex, l1_eq]
 refine forSt_of l1_N.1 l1_N.2.1 l1_N.2.2 (l1_it s0 s4 s5 _ _ _ _) (l1_A s0 s4 s5 _ _ _ _) (fit_of (by rw [intsD_len]; lia)) (l1_B s0 s4 s5 _ _ _ _) ?_ (l1_U s0 s4 s5 _ _ _ _)
 rw [l1_L]
 have := turns1 s0 s4 s5 l T [] [] h h1 (by rw [List.length_nil]; lia) (by rw [List.length_nil]; lia)
 exact this
end
section
variable (s0 s4 s5 : List PyData)
noncomputable abbrev st0 (dr : List PyData) : St := [AO.junk, AO.ns [(S "script", AV.dat (.list s0)), (S "rows", AV.ref 2), (S "draws", AV.ref 7)], AO.list rows0, AO.list [PyData.int 11], AO.list s4, AO.list s5, AO.junk, AO.list dr]
noncomputable def s937 (i : Nat) : Stmt := (nth fn937.body i).getD noStmt
theorem head1 (dr : List PyData) : exsA (up zA 31) cx1 [s937 0, s937 1, s937 2] (st0 s0 s4 s5 dr ++ [AO.ns [(S "rows", AV.ref 2), (S "draws", AV.ref 7)]]) = some (.next, st1 s0 s4 s5 fr937 dr rows0 [] [], true) := by kernel_rfl!
end
section
variable (s0 s4 s5 : List PyData)
noncomputable abbrev frL (line words k : AV) : AO := .ns [(S "rows", .ref 2), (S "draws", .ref 7), (S "table", .ref 11), (S "lines", .ref 13), (S "told", .ref 14), (S "r", .unk), (S "before", .unk), (S "gone", .unk), (S "came", .unk), (S "words", words), (S "kind", .unk), (S "name", .unk), (S "value", .unk), (S "line", line), (S "k", k)]
noncomputable abbrev st2 (f : AO) (dr t ls td : List PyData) : St := [AO.junk, AO.ns [(S "script", AV.dat (.list s0)), (S "rows", AV.ref 2), (S "draws", AV.ref 7)], AO.list rows0, AO.list [PyData.int 11], AO.list s4, AO.list s5, AO.junk, AO.list dr, f, AO.list t, AO.dict [(S "_headers", AV.ref 9)], AO.inst 190 10, AO.junk, AO.list ls, AO.list td, AO.junk]
noncomputable def s901 (i : Nat) : Stmt := (nth fn901.body i).getD noStmt
noncomputable def cx901 : Cx := ⟨16, fn901.fd.scope, []⟩
noncomputable def lexDe (st : AV) : AO := .dict [(S "instream", .ref 21), (S "infile", .none), (S "posix", .bool true), (S "eof", .none), (S "commenters", .str (S "")), (S "wordchars", .str (S "abcdfeghijklmnopqrstuvwxyzABCDEFGHIJKLMNOPQRSTUVWXYZ0123456789_ßàáâãäåæçèéêëìíîïðñòóôõöøùúûüýþÿÀÁÂÃÄÅÆÇÈÉÊËÌÍÎÏÐÑÒÓÔÕÖØÙÚÛÜÝÞ")), (S "whitespace", .str (S " \t\r\n")), (S "whitespace_split", .bool true), (S "quotes", .str (S "'\"")), (S "escape", .str (S "\\")), (S "escapedquotes", .str (S "\"")), (S "state", st), (S "pushback", .ref 24), (S "lineno", .int 1), (S "debug", .int 0), (S "token", .str (S "")), (S "filestack", .ref 25), (S "source", .none), (S "_punctuation_chars", .str (S ""))]
noncomputable def sk (s : Str) (st : AV) (rest : List Nat) : St := [AO.ns [(S "s", .str s), (S "comments", .bool false), (S "posix", .bool true), (S "lex", .ref 18)], lexDe st, .inst 889 17, .junk, .sdict rest, .inst 754 20, .junk, .junk, .deq, .deq]
noncomputable def sN (s : Str) (f : AV) (t ls td dr : List PyData) (st : AV) (rest : List Nat) : St := st2 s0 s4 s5 (frL f .unk .unk) dr t ls td ++ (sk s st rest ++ [.junk])
theorem pre901 (dr t ls td : List PyData) (s : Str) : exsA (up zA 27) cx901 [s901 0, s901 1, s901 2, s901 3] (st2 s0 s4 s5 (frL (.str s) .unk .unk) dr t ls td ++ [.ns [(S "s", .str s), (S "comments", .bool false), (S "posix", .bool true)]]) = some (.next, st2 s0 s4 s5 (frL (.str s) .unk .unk) dr t ls td ++ sk s (.str (S " ")) s.cps.toList, ((((((((small s && true) && true) && true) && true) && true) && true) && true) && true)) := by kernel_rfl!
noncomputable def nx (s : Str) (f : AV) (t ls td dr : List PyData) (st : AV) (rest : List Nat) : Rs (Option Str) := bn2 (nextA TT (up zA 25) fn886 18 (sN s0 s4 s5 s f t ls td dr st rest)) fun v σ => ok v (cutS 27 27 σ)
theorem nx_n (s : Str) (line : Str) (t ls td dr : List PyData) (rest : List Nat) (n : Nm) : nx s0 s4 s5 s (.str line) t ls td dr (.str (S " ")) (n.s.cps.toList ++ 32 :: rest) = some (some n.s, sN s0 s4 s5 s (.str line) t ls td dr (.str (S " ")) rest, true) := by
 cases n <;> kernel_rfl!
noncomputable def Vl.y : Vl -> Str
 | .e => S "''" | .i => S "'it'\"'\"'s'" | .x => S "'x y'"
theorem nx_v (s : Str) (line : Str) (t ls td dr : List PyData) (rest : List Nat) (n : Vl) : nx s0 s4 s5 s (.str line) t ls td dr (.str (S " ")) (n.y.cps.toList ++ 32 :: rest) = some (some n.s, sN s0 s4 s5 s (.str line) t ls td dr (.str (S " ")) rest, true) := by
 cases n <;> kernel_rfl!
theorem nx_ve (s : Str) (line : Str) (t ls td dr : List PyData) (n : Vl) : nx s0 s4 s5 s (.str line) t ls td dr (.str (S " ")) n.y.cps.toList = some (some n.s, sN s0 s4 s5 s (.str line) t ls td dr .none [], true) := by
 cases n <;> kernel_rfl!
theorem nx_ne (s : Str) (line : Str) (t ls td dr : List PyData) (n : Nm) : nx s0 s4 s5 s (.str line) t ls td dr (.str (S " ")) n.s.cps.toList = some (some n.s, sN s0 s4 s5 s (.str line) t ls td dr .none [], true) := by
 cases n <;> kernel_rfl!
theorem nx_z (s : Str) (line : Str) (t ls td dr : List PyData) : nx s0 s4 s5 s (.str line) t ls td dr .none [] = some (none, sN s0 s4 s5 s (.str line) t ls td dr .none [], true) := by kernel_rfl!
theorem nx_0 (s : Str) (line : Str) (t ls td dr : List PyData) : nx s0 s4 s5 s (.str line) t ls td dr (.str (S " ")) [] = some (none, sN s0 s4 s5 s (.str line) t ls td dr .none [], true) := by kernel_rfl!
end
theorem words_cons {T : Tp} {r : Rec} {fn : Fn} {i m n : Nat} {acc l : List PyData} {σ σ₁ σ2 : St} {s : Str} (h : bn2 (nextA T r fn i σ) (fun v σ => ok v (cutS m m σ)) = some (some s, σ₁, true)) (hf : fit acc = true) (h2 : wordsA T r fn i m n (acc ++ [.str s]) σ₁ = some (l, σ2, true)) : wordsA T r fn i m (n + 1) acc σ = some (l, σ2, true) := by
 obtain ⟨v, σ', e, h⟩ := bn2_some h
 obtain ⟨rfl, rfl⟩ := ok_some h
 unfold wordsA
 exact bn2_of e (chk_of hf h2)
theorem words_end {T : Tp} {r : Rec} {fn : Fn} {i m n : Nat} {acc : List PyData} {σ σ₁ : St} (h : bn2 (nextA T r fn i σ) (fun v σ => ok v (cutS m m σ)) = some (none, σ₁, true)) : wordsA T r fn i m (n + 1) acc σ = some (acc, σ₁, true) := by
 obtain ⟨v, σ', e, h⟩ := bn2_some h
 obtain ⟨rfl, rfl⟩ := ok_some h
 unfold wordsA
 exact bn2_of e ok_eq
inductive Wd where
 | n (m : Nm)
 | v (x : Vl)
noncomputable def Wd.s : Wd -> Str
 | .n m => m.s
 | .v x => x.s
noncomputable def Wd.y : Wd -> Str
 | .n m => m.s
 | .v x => x.y
noncomputable def codes : List Wd -> List Nat
 | [] => []
 | [w] => w.y.cps.toList
 | w :: u :: l => w.y.cps.toList ++ 32 :: codes (u :: l)
noncomputable def strW : List Wd -> List PyData
 | [] => []
 | w :: l => .str w.s :: strW l
noncomputable def Kd.n : Kd -> Nm
 | .a => .a | .b => .b | .c => .c
noncomputable def flatW : List Row -> List Wd
 | [] => []
 | r :: l => .n r.1 :: .v r.2 :: flatW l
noncomputable def wdW : Option (Kd × List Row) -> List Wd
 | none => []
 | some p => .n p.1.n :: flatW p.2
theorem Kd.n_s : ∀ k : Kd, k.n.s = k.s
 | .a => rfl
 | .b => rfl
 | .c => rfl
noncomputable def sW : List Wd -> List Str
 | [] => []
 | w :: l => w.s :: sW l
noncomputable def yW : List Wd -> List Str
 | [] => []
 | w :: l => w.y :: yW l
theorem strsOf_W : ∀ l, strsOf (strW l) = some (sW l)
 | [] => rfl
 | x :: l => bnd_of (a := x.s) rfl (bnd_of (strsOf_W l) rfl)
theorem Wd.look : ∀ w : Wd, Mine.look w.s quotTab = some w.y
 | .n m => by cases m <;> kernel_rfl!
 | .v x => by cases x <;> kernel_rfl!
theorem quots_W : ∀ l, quots (sW l) = some (yW l)
 | [] => rfl
 | w :: l => bnd_of w.look (bnd_of (quots_W l) rfl)
theorem codes_W : ∀ l, (joinL s_space (yW l)).cps.toList = codes l
 | [] => rfl
 | [w] => rfl
 | w :: u :: l => by
  show w.y.cps.toList ++ ((s_space).cps.toList ++ (joinL s_space (yW (u :: l))).cps.toList) = _
  rw [codes_W (u :: l)]
  rfl
theorem flat_W : ∀ l, flatR l = strW (flatW l)
 | [] => rfl
 | r :: l => congrArg (fun t => PyData.str r.1.s :: PyData.str r.2.s :: t) (flat_W l)
theorem wds_W : ∀ o, wds o = strW (wdW o)
 | none => rfl
 | some p => by
  show PyData.str p.1.s :: flatR p.2 = PyData.str p.1.n.s :: strW (flatW p.2)
  rw [p.1.n_s, flat_W]
theorem line_W (o : Option (Kd × List Row)) : (lineD (wds o)).cps.toList = codes (wdW o) := by
 have e : lineP (wds o) = some (joinL s_space (yW (wdW o))) := by
  unfold lineP
  rw [wds_W]
  exact bnd_of (strsOf_W _) (bnd_of (quots_W _) rfl)
 unfold lineD
 rw [e]
 exact codes_W _
theorem strW_len : ∀ l, (strW l).length = l.length
 | [] => rfl
 | x :: l => congrArg (· + 1) (strW_len l)
section
variable (s0 s4 s5 : List PyData)
theorem nx_W (s line : Str) (t ls td dr : List PyData) (rest : List Nat) : ∀ w : Wd, nx s0 s4 s5 s (.str line) t ls td dr (.str (S " ")) (w.y.cps.toList ++ 32 :: rest) = some (some w.s, sN s0 s4 s5 s (.str line) t ls td dr (.str (S " ")) rest, true)
 | .n m => nx_n s0 s4 s5 s line t ls td dr rest m
 | .v x => nx_v s0 s4 s5 s line t ls td dr rest x
theorem nx_We (s line : Str) (t ls td dr : List PyData) : ∀ w : Wd, nx s0 s4 s5 s (.str line) t ls td dr (.str (S " ")) w.y.cps.toList = some (some w.s, sN s0 s4 s5 s (.str line) t ls td dr .none [], true)
 | .n m => nx_ne s0 s4 s5 s line t ls td dr m
 | .v x => nx_ve s0 s4 s5 s line t ls td dr x
theorem words_W (s line : Str) (t ls td dr : List PyData) : ∀ (l : List Wd) (n : Nat) (acc : List PyData), l.length < n -> acc.length + l.length <= 10000 -> wordsA TT (up zA 25) fn886 18 27 n acc (sN s0 s4 s5 s (.str line) t ls td dr (.str (S " ")) (codes l)) = some (acc ++ strW l, sN s0 s4 s5 s (.str line) t ls td dr .none [], true)
 | _, 0, _, h, _ => absurd h (Nat.not_lt_zero _)
 | [], n + 1, acc, _, _ => by
  rw [show acc ++ strW [] = acc from List.append_nil acc]
  exact words_end (nx_0 s0 s4 s5 s line t ls td dr)
 | [w], n + 1, acc, h, h2 => by
  obtain ⟨k, rfl⟩ : ∃ k, n = k + 1 := ⟨n - 1, by simp only [List.length_cons, List.length_nil] at h; lia⟩
  exact words_cons (nx_We s0 s4 s5 s line t ls td dr w) (fit_of (le_d ‹_› rfl)) (words_end (nx_z s0 s4 s5 s line t ls td dr))
 | w :: u :: l, n + 1, acc, h, h2 => by
  have i := words_W s line t ls td dr (u :: l) n (acc ++ [.str w.s]) (by simp only [List.length_cons] at h ⊢; lia) (by simp only [List.length_cons, List.length_append, List.length_nil] at h2 ⊢; exact le_s ‹_›)
  rw [List.append_assoc] at i
  exact words_cons (nx_W s0 s4 s5 s line t ls td dr (codes (u :: l)) w) (fit_of (le_d ‹_› rfl)) i
end
section
variable {T : Tp} {r : Rec} {c : Cx} {σ σ₁ σ2 σ3 σ4 : St}
theorem ev_fn {f : Str} {q p : Pos} {as : List Expr} {a : Addr} {fn : Fn} {fs : List Fn} {vs : List AV} {v : AV} (hn : nameA T c f σ = some (.raw (.ref a), σ, true)) (hf : nlook a T.fns = some (fn :: fs)) (hp : plainArgs as = true) (ha : evsA r c as σ = some (vs, σ₁, true)) (hc : r.call a vs [] σ₁ = some (v, σ2, true)) : evA T r c (.Call (.Name f q) as [] p) σ = some (v, σ2, true) := by
 refine gd_of hp (bnd_of (a := f) rfl (bn2_of hn (bnd_of (a := Value.ref a) rfl ?_)))
 show callRA T r c a as [] σ = _
 unfold callRA
 rw [hf]
 exact gd_of rfl (bn2_of ha (bnd_of (a := []) rfl (bn2_of ok_eq hc)))
theorem ev_list {f : Str} {q p : Pos} {e : Expr} {i : Nat} {fn : Fn} {fs : String} {l : List PyData} (hn : nameA T c f σ = some (.raw (.type fs), σ, true)) (h1 : leq (strN fs) (strN "type") = false) (h2 : leq (strN fs) (strN "int") = false) (h3 : leq (strN fs) (strN "list") = true) (hp : plainArgs [e] = true) (ha : r.ev c e σ = some (.ref i, σ₁, true)) (hl : isLex σ₁ i = true) (hfn : nlook 886 T.fns = some [fn]) (hpl : plainFn1 fn = true) (hc : r.call 879 [.ref i] [] σ₁ = some (.ref i, σ2, true))
 (hw : wordsA T r fn i (len σ2) 1000 [] σ2 = some (l, σ3, true)) (hf : fit l = true) : evA T r c (.Call (.Name f q) [e] [] p) σ = some (.ref (len σ3), σ3 ++ [.list l], true) := by
 refine gd_of hp (bnd_of (a := f) rfl (bn2_of hn (bnd_of (a := Value.type fs) rfl (gd_of rfl (bn2_of (bn2_of ha (bn2_of ok_eq ok_eq)) ?_)))))
 refine pk_ff h1 (pk_ff h2 (pk_tt h3 (bnd_of (oneV_one _) (bnd_of (a := i) rfl (gd_of hl (bnd_of hfn (bnd_of (oneV_one _) (bn2_of hc (bnd_of (a := i) rfl (gd_of ?_ (bn2_of hw (chk_of hf ok_eq))))))))))))
 exact and_i (Nat.beq_refl i) hpl
end
theorem callA_of {T : Tp} {r : Rec} {f : Addr} {vs : List AV} {σ σ₁ : St} {fs : List Fn} {fn : Fn} {l : List (Str × AV)} {v : AV} (h0 : Nat.beq f 908 = false) (h1 : nlook f T.fns = some fs) (h2 : pickFn (len vs) [] fs = some fn) (h3 : bindsA vs [] fn.binds = some l) (h4 : fn.kwd = none) (h5 : fn.cel = none) (hb : exsA r ⟨len σ, fn.fd.scope, []⟩ fn.body (σ ++ [.ns l]) = some (.ret v, σ₁, true)) : callA T r f vs [] σ = some (v, setNth σ₁ (len σ) .junk, true) := by
 have e : bodyA r fn l σ = exsA r ⟨len σ, fn.fd.scope, []⟩ fn.body (σ ++ [.ns l]) := by unfold bodyA; rw [h4, h5]
 have e2 : frAt fn (len σ) = len σ := by unfold frAt; rw [h4]
 refine pk_ff h0 (bnd_of h1 (bnd_of h2 (bnd_of h3 (bn2_of (e.trans hb) (bnd_of (a := v) rfl ?_)))))
 rw [e2]
 exact ok_eq
theorem upA_ev {n : Nat} {c : Cx} {e : Expr} {σ : St} : (up zA (n + 1)).ev c e σ = evA TT (up zA n) c e σ := by kernel_rfl
theorem upA_tr {n : Nat} {c : Cx} {e : Expr} {σ : St} : (up zA (n + 1)).tr c e σ = trA TT (up zA n) c e σ := by kernel_rfl
theorem upA_901 {n : Nat} {s : Str} {σ : St} : (up zA (n + 1)).call 901 [.str s] [] σ = callA TT (up zA n) 901 [.str s] [] σ := by kernel_rfl
theorem exs_append {r : Rec} {c : Cx} : ∀ {a b : List Stmt} {σ σ₁ σ2 : St} {f : Fl}, exsA r c a σ = some (.next, σ₁, true) -> exsA r c b σ₁ = some (f, σ2, true) -> exsA r c (a ++ b) σ = some (f, σ2, true)
 | [], b, σ, σ₁, σ2, f, h1, h2 => ok_st (P := fun σ => exsA r c b σ = some (f, σ2, true)) h1 h2
 | s :: a, b, σ, σ₁, σ2, f, h1, h2 => bn2_el h1 fun g σ' e h1 => by
  cases g with
  | next => exact exs_cons e (exs_append h1 h2)
  | brk => exact nomatch (ok_some h1).1
  | cont => exact nomatch (ok_some h1).1
  | ret v => exact nomatch (ok_some h1).1
section
variable (s0 s4 s5 : List PyData)
theorem s901_4 : s901 4 = .Return (some (.Call (.Name (S "list") ⟨836, 11, 836, 15⟩) [.Name (S "lex") ⟨836, 16, 836, 19⟩] [] ⟨836, 11, 836, 20⟩)) ⟨836, 4, 836, 20⟩ := by kernel_rfl!
theorem body901 : fn901.body = [s901 0, s901 1, s901 2, s901 3] ++ [s901 4] := by kernel_rfl!
noncomputable def tl (W : List PyData) : St := [.junk, lexDe .none, .inst 889 17, .junk, .sdict [], .inst 754 20, .junk, .junk, .deq, .deq, .junk, .list W]
section
variable (dr t ls td : List PyData) (s : Str)
noncomputable abbrev stX : St := st2 s0 s4 s5 (frL (.str s) .unk .unk) dr t ls td ++ sk s (.str (S " ")) s.cps.toList
theorem r_1 : nameA TT cx901 (S "list") (stX s0 s4 s5 dr t ls td s) = some (.raw (.type "list"), stX s0 s4 s5 dr t ls td s, true) := by kernel_rfl!
theorem r_2 : (up zA 25).ev cx901 (.Name (S "lex") ⟨836, 16, 836, 19⟩) (stX s0 s4 s5 dr t ls td s) = some (.ref 18, stX s0 s4 s5 dr t ls td s, true) := by kernel_rfl!
theorem r_3 : isLex (stX s0 s4 s5 dr t ls td s) 18 = true := by kernel_rfl!
theorem r_4 : (up zA 25).call 879 [.ref 18] [] (stX s0 s4 s5 dr t ls td s) = some (.ref 18, sN s0 s4 s5 s (.str s) t ls td dr (.str (S " ")) s.cps.toList, true) := by kernel_rfl!
theorem r_5 : len (sN s0 s4 s5 s (.str s) t ls td dr (.str (S " ")) s.cps.toList) = 27 := by kernel_rfl!
theorem r_6 (W : List PyData) : setNth (sN s0 s4 s5 s (.str s) t ls td dr .none [] ++ [.list W]) 16 .junk = st2 s0 s4 s5 (frL (.str s) .unk .unk) dr t ls td ++ tl W := by kernel_rfl!
theorem r_7 : len (sN s0 s4 s5 s (.str s) t ls td dr .none []) = 27 := by kernel_rfl!
theorem r_8 : len (st2 s0 s4 s5 (frL (.str s) .unk .unk) dr t ls td) = 16 := by kernel_rfl!
theorem lookfns : nlook 886 TT.fns = some [fn886] /\ plainFn1 fn886 = true /\ nlook 901 TT.fns = some [fn901] := ⟨by kernel_rfl!, by kernel_rfl!, by kernel_rfl!⟩
theorem strN3 : leq (strN "list") (strN "type") = false /\ leq (strN "list") (strN "int") = false /\ leq (strN "list") (strN "list") = true := ⟨by kernel_rfl!, by kernel_rfl!, by kernel_rfl!⟩
theorem fn901_ok : Nat.beq 901 908 = false /\ pickFn (len [AV.str s]) [] [fn901] = some fn901 /\ bindsA [AV.str s] [] fn901.binds = some [(S "s", .str s), (S "comments", .bool false), (S "posix", .bool true)] /\ fn901.kwd = none /\ fn901.cel = none := ⟨by kernel_rfl!, by kernel_rfl!, by kernel_rfl!, by kernel_rfl!, by kernel_rfl!⟩
theorem split_call (W : List Wd) (hs : s.cps.toList = codes W) (hsm : small s = true) (hW : W.length <= 900) : (up zA 28).call 901 [.str s] [] (st2 s0 s4 s5 (frL (.str s) .unk .unk) dr t ls td) = some (.ref 27, st2 s0 s4 s5 (frL (.str s) .unk .unk) dr t ls td ++ tl (strW W), true) := by
 rw [upA_901]
 have p := pre901 s0 s4 s5 dr t ls td s
 rw [hsm] at p
 have w := words_W s0 s4 s5 s s t ls td dr W 1000 [] (lt_c ‹_› rfl) (by rw [List.length_nil]; exact le_0 ‹_› rfl)
 rw [<- hs] at w
 have e4 : evA TT (up zA 25) cx901 (.Call (.Name (S "list") ⟨836, 11, 836, 15⟩) [.Name (S "lex") ⟨836, 16, 836, 19⟩] [] ⟨836, 11, 836, 20⟩) (stX s0 s4 s5 dr t ls td s) = some (.ref 27, sN s0 s4 s5 s (.str s) t ls td dr .none [] ++ [.list (strW W)], true) := by
  have := ev_list (p := ⟨836, 11, 836, 20⟩) (q := ⟨836, 11, 836, 15⟩) (r_1 s0 s4 s5 dr t ls td s) strN3.1 strN3.2.1 strN3.2.2 rfl (r_2 s0 s4 s5 dr t ls td s) (r_3 s0 s4 s5 dr t ls td s) lookfns.1 lookfns.2.1 (r_4 s0 s4 s5 dr t ls td s) (by rw [r_5]; exact w) (fit_of (by rw [List.nil_append, strW_len]; exact le_c ‹_› rfl))
  rw [r_7] at this
  exact this
 have e5 : (up zA 27).ex cx901 (s901 4) (stX s0 s4 s5 dr t ls td s) = some (.ret (.ref 27), sN s0 s4 s5 s (.str s) t ls td dr .none [] ++ [.list (strW W)], true) := by
  rw [upA_ex, s901_4]
  refine ex_ret ?_
  rw [upA_ev]
  exact e4
 have b : exsA (up zA 27) cx901 fn901.body (st2 s0 s4 s5 (frL (.str s) .unk .unk) dr t ls td ++ [.ns [(S "s", .str s), (S "comments", .bool false), (S "posix", .bool true)]]) = some (.ret (.ref 27), sN s0 s4 s5 s (.str s) t ls td dr .none [] ++ [.list (strW W)], true) := by
  rw [body901]
  exact exs_append p (exs_ret e5)
 obtain ⟨a1, a2, a3, a4, a5⟩ := fn901_ok s
 have := callA_of (T := TT) (r := up zA 27) (f := 901) (vs := [.str s]) a1 lookfns.2.2 a2 a3 a4 a5 b
 rw [r_8, r_6] at this
 exact this
end
end
noncomputable def loop2 : Stmt := s937 4
noncomputable def b2 (i : Nat) : Stmt := (nth (forB loop2) i).getD noStmt
noncomputable def d2 (i : Nat) : Stmt := (nth (ifA' (b2 1)) i).getD noStmt
theorem b2_0 : b2 0 = .Assign [.Name (S "words") ⟨876, 8, 876, 13⟩] (.Call (.Name (S "split") ⟨876, 16, 876, 21⟩) [.Name (S "line") ⟨876, 22, 876, 26⟩] [] ⟨876, 16, 876, 27⟩) ⟨876, 8, 876, 27⟩ := by kernel_rfl!
theorem b2_1 : b2 1 = .If (ifT4 (b2 1)) [d2 0, d2 1] [] (posS (b2 1)) := by kernel_rfl!
theorem body2 : forB loop2 = [b2 0, b2 1] := by kernel_rfl!
noncomputable abbrev dB : Stmt := .Expr (.Call (.Attribute (.Name (S "table") ⟨880, 16, 880, 21⟩) (S "add_header") ⟨880, 16, 880, 32⟩) [.Subscript (.Name (S "words") ⟨880, 33, 880, 38⟩) (.Name (S "k") ⟨880, 39, 880, 40⟩) ⟨880, 33, 880, 41⟩, .Subscript (.Name (S "words") ⟨880, 43, 880, 48⟩) (.BinOp (.Name (S "k") ⟨880, 49, 880, 50⟩) .Add (.Constant (.int 1) 0 ⟨880, 53, 880, 54⟩) ⟨880, 49, 880, 54⟩) ⟨880, 43, 880, 55⟩] [] ⟨880, 16, 880, 56⟩) ⟨880, 16, 880, 56⟩
noncomputable abbrev dAs : List Expr := [.Constant (.int 1) 0 ⟨879, 27, 879, 28⟩, .Call (.Name (S "len") ⟨879, 30, 879, 33⟩) [.Name (S "words") ⟨879, 34, 879, 39⟩] [] ⟨879, 30, 879, 40⟩, .Constant (.int 2) 0 ⟨879, 42, 879, 43⟩]
noncomputable abbrev dT : Expr := .Name (S "k") ⟨879, 16, 879, 17⟩
theorem d2_1 : d2 1 = .For dT (.Call (.Name (S "range") ⟨879, 21, 879, 26⟩) dAs [] ⟨879, 21, 879, 44⟩) [dB] [] ⟨879, 12, 880, 56⟩ := by kernel_rfl!
theorem ln_k : loopN dT [dB] = [S "k"] := by kernel_rfl!
section
variable {T : Tp} {r : Rec} {c : Cx} {σ σ₁ σ2 σ3 σ4 : St}
theorem forSt_range {t : Expr} {f : Str} {q p p2 : Pos} {as : List Expr} {b : List Stmt} {fs : String} {vs : List AV} {l : List PyData × Bool} (g0 : notSet (.Call (.Name f q) as [] p2) = true) (g1 : isRange (.Call (.Name f q) as [] p2) = some as) (g2 : plainArgs as = true) (h1 : nameA T c s_range σ = some (.raw (.type fs), σ, true)) (h2 : leq (strN fs) (strN "range") = true) (h3 : evsA r c as σ = some (vs, σ₁, true)) (h4 : rangeV vs = some l) (h5 : l.2 = true) {σb : St} (hb : blur c (loopN t b) σ₁ = σb) (h6 : forA r c t b (loopN t b) (len σ₁) l.1 σb = some ((), σ2, true)) :
 exA T r c (.For t (.Call (.Name f q) as [] p2) b [] p) σ = some (.next, σ2, true) := by
 subst hb
 refine gd_of (and_i rfl g0) ?_
 unfold forSt
 rw [g1]
 exact gd_of g2 (bn2_of h1 (bnd_of (a := fs) rfl (gd_of h2 (bn2_of h3 (bnd_of h4 (chk_of h5 (bn2_of h6 ok_eq)))))))
theorem ev_item {o k : Expr} {p : Pos} {i m : Nat} {l : List PyData} {d : PyData} (g1 : sliceK k = none) (g2 : sliceAB k = none) (g3 : notSlice k = true) (h1 : r.ev c o σ = some (.ref i, σ₁, true)) (h2 : r.ev c k σ₁ = some (.int (.ofNat m), σ2, true)) (h3 : lsAt σ2 i = some l) (h4 : nth l m = some d) (h5 : fit l = true) : evA T r c (.Subscript o k p) σ = some (ofP d, σ2, true) := by
 show subA r c o k σ = _
 unfold subA
 rw [g1]
 dsimp only
 rw [g2]
 exact gd_of g3 (bn2_of h1 (bn2_of h2 (bnd_of (a := Int.ofNat m) rfl (bnd_of h3 (bnd_of (show nthI l (Int.ofNat m) = some d from h4) (chk_of h5 ok_eq))))))
end
section
variable (s0 s4 s5 dr t ls td : List PyData) (s : Str)
theorem t_1 : nameA TT cx1 (S "split") (st2 s0 s4 s5 (frL (.str s) .unk .unk) dr t ls td) = some (.raw (.ref 901), st2 s0 s4 s5 (frL (.str s) .unk .unk) dr t ls td, true) := by kernel_rfl!
theorem t_2 : evsA (up zA 28) cx1 [.Name (S "line") ⟨876, 22, 876, 26⟩] (st2 s0 s4 s5 (frL (.str s) .unk .unk) dr t ls td) = some ([.str s], st2 s0 s4 s5 (frL (.str s) .unk .unk) dr t ls td, true) := by kernel_rfl!
noncomputable abbrev stW (k : AV) (W : List PyData) : St := st2 s0 s4 s5 (frL (.str s) (.ref 27) k) dr t ls td ++ tl W
theorem t_3 (W : List PyData) : storeL cx1 (S "words") (.ref 27) (st2 s0 s4 s5 (frL (.str s) .unk .unk) dr t ls td ++ tl W) = some (stW s0 s4 s5 dr t ls td s .unk W) := by kernel_rfl!
theorem t_split (W : List Wd) (hs : s.cps.toList = codes W) (hsm : small s = true) (hW : W.length <= 900) : (up zA 30).ex cx1 (b2 0) (st2 s0 s4 s5 (frL (.str s) .unk .unk) dr t ls td) = some (.next, stW s0 s4 s5 dr t ls td s .unk (strW W), true) := by
 rw [upA_ex, b2_0]
 refine ex_asg rfl ?_ (t_3 s0 s4 s5 dr t ls td s (strW W))
 rw [upA_ev]
 exact ev_fn (t_1 s0 s4 s5 dr t ls td s) lookfns.2.2 rfl (t_2 s0 s4 s5 dr t ls td s) (split_call s0 s4 s5 dr t ls td s W hs hsm hW)
theorem t_if (w : Str) (W : List PyData) : (up zA 29).tr cx1 (ifT4 (b2 1)) (stW s0 s4 s5 dr t ls td s .unk (.str w :: W)) = some (true, stW s0 s4 s5 dr t ls td s .unk (.str w :: W) ++ [.list []], ((shp (.list (.str w :: W)) && true) && true)) := by kernel_rfl!
theorem t_no : (up zA 30).ex cx1 (b2 1) (stW s0 s4 s5 dr t ls td s .unk []) = some (.next, stW s0 s4 s5 dr t ls td s .unk [] ++ [.list []], true) := by kernel_rfl!
noncomputable def tlI (k : Kd) (X W : List PyData) : St := tl W ++ [.list [], .junk, .cell (.str k.s), .junk, .list X, .junk]
noncomputable def stI (kv : AV) (k : Kd) (X W : List PyData) : St := st2 s0 s4 s5 (frL (.str s) (.ref 27) kv) dr t ls td ++ tlI k X W
theorem t_del (k : Kd) (W : List PyData) : (up zA 29).ex cx1 (d2 0) (stW s0 s4 s5 dr t ls td s .unk (.str k.s :: W) ++ [.list []]) = some (.next, stI s0 s4 s5 dr (rps (keepK k (rowsD t))) ls td s .unk k (rps (keepK k (rowsD t))) (.str k.s :: W), ((fit (PyData.str k.s :: W) && true) && ((okT t && true) && true))) := by
 cases k <;> kernel_rfl!
variable (k : Kd) (X W : List PyData)
theorem i_1 (i : Nat) : (up zA 26).ev cx1 (.Name (S "table") ⟨880, 16, 880, 21⟩) (stI s0 s4 s5 dr t ls td s (.int (.ofNat i)) k X W) = some (.ref 11, stI s0 s4 s5 dr t ls td s (.int (.ofNat i)) k X W, true) := by kernel_rfl!
theorem i_2 (i : Nat) : findM TT (.ref 11) (S "add_header") (stI s0 s4 s5 dr t ls td s (.int (.ofNat i)) k X W) = some (.fn 187 11) := by kernel_rfl!
theorem i_3 (i : Nat) : (up zA 25).ev cx1 (.Name (S "words") ⟨880, 33, 880, 38⟩) (stI s0 s4 s5 dr t ls td s (.int (.ofNat i)) k X W) = some (.ref 27, stI s0 s4 s5 dr t ls td s (.int (.ofNat i)) k X W, true) := by kernel_rfl!
theorem i_4 (i : Nat) : (up zA 25).ev cx1 (.Name (S "k") ⟨880, 39, 880, 40⟩) (stI s0 s4 s5 dr t ls td s (.int (.ofNat i)) k X W) = some (.int (.ofNat i), stI s0 s4 s5 dr t ls td s (.int (.ofNat i)) k X W, true) := by kernel_rfl!
theorem i_5 (i : Nat) : (up zA 25).ev cx1 (.Name (S "words") ⟨880, 43, 880, 48⟩) (stI s0 s4 s5 dr t ls td s (.int (.ofNat i)) k X W) = some (.ref 27, stI s0 s4 s5 dr t ls td s (.int (.ofNat i)) k X W, true) := by kernel_rfl!
theorem i_6 (i : Nat) : (up zA 25).ev cx1 (.BinOp (.Name (S "k") ⟨880, 49, 880, 50⟩) .Add (.Constant (.int 1) 0 ⟨880, 53, 880, 54⟩) ⟨880, 49, 880, 54⟩) (stI s0 s4 s5 dr t ls td s (.int (.ofNat i)) k X W) = some (.int (.ofNat (i + 1)), stI s0 s4 s5 dr t ls td s (.int (.ofNat i)) k X W, true) := by kernel_rfl!
theorem i_7 (i : Nat) : lsAt (stI s0 s4 s5 dr t ls td s (.int (.ofNat i)) k X W) 27 = some W := by kernel_rfl!
theorem i_8 (i : Nat) (n : Nm) (v : Vl) : bn2 ((up zA 26).call 187 [.ref 11, .str n.s, .str v.s] [] (stI s0 s4 s5 dr t ls td s (.int (.ofNat i)) k X W)) (fun v σ => ok v (blur cx1 [S "k"] (cutS 34 34 σ))) = some (.none, stI s0 s4 s5 dr (t ++ [rp (n, v)]) ls td s .unk k X W, (((((fit t && true) && true) && true) && true) && true)) := by
 cases n <;> cases v <;> kernel_rfl!
theorem i_9 (i : Nat) : storeT cx1 dT (ofP (.int (.ofNat i))) (stI s0 s4 s5 dr t ls td s .unk k X W) = some (stI s0 s4 s5 dr t ls td s (.int (.ofNat i)) k X W) := by kernel_rfl!
theorem i_len : len (stI s0 s4 s5 dr t ls td s .unk k X W) = 34 := by kernel_rfl!
theorem i_turn (i : Nat) (n : Nm) (v : Vl) (h1 : nth W i = some (.str n.s)) (h2 : nth W (i + 1) = some (.str v.s)) (hW : fit W = true) (ht : fit t = true) : forA (up zA 28) cx1 dT [dB] [S "k"] 34 [.int (.ofNat i)] (stI s0 s4 s5 dr t ls td s .unk k X W) = some ((), stI s0 s4 s5 dr (t ++ [rp (n, v)]) ls td s .unk k X W, true) := by
 have a := i_8 s0 s4 s5 dr t ls td s k X W i n v
 rw [ht] at a
 obtain ⟨w, σ', hc, a⟩ := bn2_some a
 obtain ⟨rfl, ha⟩ := ok_some a
 refine forA_one (i_9 s0 s4 s5 dr t ls td s k X W i) (exs_cons (σ₁ := σ') ?_ exs_nil) ha
 have e : (up zA 28).ex cx1 dB (stI s0 s4 s5 dr t ls td s (.int (.ofNat i)) k X W) = some (.next, σ', true) := by
  rw [upA_ex]
  refine ex_expr rfl ?_ (rfl : notRef .none = true)
  rw [upA_ev]
  have as : evsA (up zA 26) cx1 [.Subscript (.Name (S "words") ⟨880, 33, 880, 38⟩) (.Name (S "k") ⟨880, 39, 880, 40⟩) ⟨880, 33, 880, 41⟩, .Subscript (.Name (S "words") ⟨880, 43, 880, 48⟩) (.BinOp (.Name (S "k") ⟨880, 49, 880, 50⟩) .Add (.Constant (.int 1) 0 ⟨880, 53, 880, 54⟩) ⟨880, 49, 880, 54⟩) ⟨880, 43, 880, 55⟩] (stI s0 s4 s5 dr t ls td s (.int (.ofNat i)) k X W) = some ([.str n.s, .str v.s], stI s0 s4 s5 dr t ls td s (.int (.ofNat i)) k X W, true) := by
   refine bn2_of (upA_ev.trans (ev_item (by kernel_rfl!) (by kernel_rfl!) rfl (i_3 s0 s4 s5 dr t ls td s k X W i) (i_4 s0 s4 s5 dr t ls td s k X W i) (i_7 s0 s4 s5 dr t ls td s k X W i) h1 hW)) (bn2_of (bn2_of (upA_ev.trans (ev_item (by kernel_rfl!) (by kernel_rfl!) rfl (i_5 s0 s4 s5 dr t ls td s k X W i) (i_6 s0 s4 s5 dr t ls td s k X W i) (i_7 s0 s4 s5 dr t ls td s k X W i) h2 hW)) (bn2_of ok_eq ok_eq)) ?_)
   kernel_rfl!
  exact ev_meth rfl rfl rfl rfl rfl (i_1 s0 s4 s5 dr t ls td s k X W i) (i_2 s0 s4 s5 dr t ls td s k X W i) as rfl ok_eq hc
 exact e
end
theorem nth_app {α : Type} {a : α} {l : List α} : ∀ P : List α, nth (P ++ a :: l) P.length = some a
 | [] => rfl
 | _ :: P => nth_app P
theorem Wd.shp (w : Wd) : PyData.canLay0 (.str w.s) = true /\ PyData.depth (.str w.s) = 0 := by
 cases w with
 | n m => cases m <;> exact ⟨by kernel_rfl!, by kernel_rfl!⟩
 | v x => cases x <;> exact ⟨by kernel_rfl!, by kernel_rfl!⟩
theorem shp_strs (W : List Wd) : shp (.list (strW W)) = true := by
 have h : ∀ l : List Wd, PyData.canLayAll0 (strW l) = true /\ PyData.depthAll (strW l) <= 1 := fun l => by
  induction l with
  | nil => exact ⟨rfl, Nat.zero_le _⟩
  | cons w l ih =>
   obtain ⟨a, b⟩ := ih
   refine ⟨?_, ?_⟩
   · show (PyData.canLay0 (.str w.s) && PyData.canLayAll0 (strW l)) = true
     rw [a, w.shp.1]; rfl
   · show max (PyData.depth (.str w.s)) (PyData.depthAll (strW l)) <= 1
     rw [w.shp.2]
     assumption
 obtain ⟨a, b⟩ := h W
 show (PyData.canLayAll0 (strW W) && decide (PyData.depthAll (strW W) + 1 <= 64)) = true
 rw [a, decide_eq_true (by exact lt_c ‹_› rfl)]; rfl
noncomputable def undo : Option (Kd × List Row) -> List Row -> List Row
 | none, T => T
 | some p, T => keepK p.1 T ++ p.2
noncomputable def undoL : List (Option (Kd × List Row)) -> List Row -> List Row
 | [], T => T
 | o :: l, T => undoL l (undo o T)
noncomputable def nR : Option (Kd × List Row) -> Nat
 | none => 0
 | some p => p.2.length
theorem flatR_len : ∀ l : List Row, (flatR l).length = 2 * l.length
 | [] => rfl
 | x :: l => by show (flatR l).length + 1 + 1 = 2 * (l.length + 1); rw [flatR_len l]; lia
theorem flatW_len : ∀ l : List Row, (flatW l).length = 2 * l.length
 | [] => rfl
 | x :: l => by show (flatW l).length + 1 + 1 = 2 * (l.length + 1); rw [flatW_len l]; lia
section
variable (s0 s4 s5 dr ls td : List PyData) (s : Str)
theorem i_turns (k : Kd) (X W : List PyData) (hW : fit W = true) : ∀ (R : List Row) (P t : List PyData), W = P ++ flatR R -> t.length + R.length <= 9000 -> forA (up zA 28) cx1 dT [dB] [S "k"] 34 (rangeL (.ofNat P.length) (.ofNat 2) R.length) (stI s0 s4 s5 dr t ls td s .unk k X W) = some ((), stI s0 s4 s5 dr (t ++ rps R) ls td s .unk k X W, true)
 | [], P, t, _, _ => by rw [show t ++ rps [] = t from List.append_nil t]; exact ok_eq
 | (n, v) :: R, P, t, h, hl => by
  simp only [List.length_cons] at hl
  have e1 : nth W P.length = some (.str n.s) := by rw [h]; exact nth_app P
  have e2 : nth W (P.length + 1) = some (.str v.s) := by
   have : W = (P ++ [.str n.s]) ++ .str v.s :: flatR R := by rw [h, List.append_assoc]; rfl
   rw [this]
   have := nth_app (a := PyData.str v.s) (l := flatR R) (P ++ [.str n.s])
   rw [List.length_append] at this
   exact this
  have a := i_turn s0 s4 s5 dr t ls td s k X W P.length n v e1 e2 hW (fit_of (le_d ‹_› rfl))
  refine forA_cons a ?_
  have b := i_turns k X W hW R (P ++ [.str n.s, .str v.s]) (t ++ [rp (n, v)]) (by rw [h, List.append_assoc]; rfl) (by rw [List.length_append, List.length_cons, List.length_nil]; exact le_s ‹_›)
  rw [List.length_append, List.append_assoc] at b
  exact b
variable (t : List PyData)
theorem j_1 (k : Kd) (X W : List PyData) : nameA TT cx1 s_range (stI s0 s4 s5 dr t ls td s .unk k X W) = some (.raw (.type "range"), stI s0 s4 s5 dr t ls td s .unk k X W, true) := by kernel_rfl!
theorem j_2 (k : Kd) (X W : List PyData) : evsA (up zA 28) cx1 dAs (stI s0 s4 s5 dr t ls td s .unk k X W) = some ([.int 1, .int (.ofNat (len W)), .int 2], stI s0 s4 s5 dr t ls td s .unk k X W, ((((fit W) && true) && true) && true)) := by kernel_rfl!
theorem j_3 (k : Kd) (X W : List PyData) : blur cx1 [S "k"] (stI s0 s4 s5 dr t ls td s .unk k X W) = stI s0 s4 s5 dr t ls td s .unk k X W := by kernel_rfl!
theorem j_4 (k : Kd) (X W : List PyData) : blur cx1 (loopN (forT loop2) (forB loop2)) (cutS 16 16 (stI s0 s4 s5 dr t ls td s .unk k X W)) = st2 s0 s4 s5 (frL .unk .unk .unk) dr t ls td := by kernel_rfl!
theorem j_5 : storeT cx1 (forT loop2) (ofP (.str s)) (st2 s0 s4 s5 (frL .unk .unk .unk) dr t ls td) = some (st2 s0 s4 s5 (frL (.str s) .unk .unk) dr t ls td) := by kernel_rfl!
theorem j_6 (W : List PyData) (e : St) : blur cx1 (loopN (forT loop2) (forB loop2)) (cutS 16 16 (stW s0 s4 s5 dr t ls td s .unk W ++ e)) = st2 s0 s4 s5 (frL .unk .unk .unk) dr t ls td := by kernel_rfl!
theorem strN_range : leq (strN "range") (strN "range") = true := by kernel_rfl!
theorem j_for (k : Kd) (X : List PyData) (R : List Row) (hR : R.length <= 400) (ht : t.length <= 8000) : (up zA 29).ex cx1 (d2 1) (stI s0 s4 s5 dr t ls td s .unk k X (.str k.s :: flatR R)) = some (.next, stI s0 s4 s5 dr (t ++ rps R) ls td s .unk k X (.str k.s :: flatR R), true) := by
 have hW : fit (PyData.str k.s :: flatR R) = true := fit_of (by rw [List.length_cons, flatR_len]; lia)
 have hl : len (PyData.str k.s :: flatR R) = 2 * R.length + 1 := by rw [len_eq, List.length_cons, flatR_len]
 rw [upA_ex, d2_1]
 have v := j_2 s0 s4 s5 dr ls td s t k X (.str k.s :: flatR R)
 rw [hW, hl] at v
 have hb : blur cx1 (loopN dT [dB]) (stI s0 s4 s5 dr t ls td s .unk k X (.str k.s :: flatR R)) = stI s0 s4 s5 dr t ls td s .unk k X (.str k.s :: flatR R) := by rw [ln_k]; exact j_3 s0 s4 s5 dr ls td s t k X _
 refine forSt_range (l := (rangeL (.ofNat 1) (.ofNat 2) R.length, true)) rfl (by kernel_rfl!) rfl (j_1 s0 s4 s5 dr ls td s t k X _) strN_range v ?_ rfl hb ?_
 · refine (show rangeV [AV.int 1, AV.int (.ofNat (2 * R.length + 1)), AV.int 2] = some (rangeL (.ofNat 1) (.ofNat 2) (Nat.div (Nat.sub (Nat.add (2 * R.length + 1) 1) 1) 2), Nat.ble 1 10000 && (Nat.ble (2 * R.length + 1) 10000 && Nat.ble 1 10000)) by kernel_rfl!).trans ?_
   have e1 : Nat.div (Nat.sub (Nat.add (2 * R.length + 1) 1) 1) 2 = R.length := by show (2 * R.length + 1 + 1 - 1) / 2 = _; lia
   have e2 : Nat.ble (2 * R.length + 1) 10000 = true := Nat.ble_eq_true_of_le (by lia)
   rw [e1, e2]
   rfl
 · rw [ln_k]
   have := i_turns s0 s4 s5 dr ls td s k X (.str k.s :: flatR R) hW R [.str k.s] t rfl (le_2 ‹_› ‹_› rfl)
   rw [i_len]
   exact this
theorem turn2 (o : Option (Kd × List Row)) (T : List Row) (hR : nR o <= 400) (hT : T.length <= 4500) : forA (up zA 30) cx1 (forT loop2) (forB loop2) (loopN (forT loop2) (forB loop2)) 16 [.str (lineD (wds o))] (st2 s0 s4 s5 (frL .unk .unk .unk) dr (rps T) ls td) = some ((), st2 s0 s4 s5 (frL .unk .unk .unk) dr (rps (undo o T)) ls td, true) := by
 have hw : (wdS o).length <= 5000 := by
  cases o with
  | none => exact Nat.zero_le _
  | some p => show (flatS p.2).length + 1 <= 5000; rw [flatS_len]; have : p.2.length <= 400 := hR; lia
 have hsm : small (lineD (wds o)) = true := by
  have := okW_wds o hw
  unfold okW at this
  rw [Bool.and_eq_true, Bool.and_eq_true] at this
  exact this.2.2
 have hlen : (wdW o).length <= 900 := by
  cases o with
  | none => exact Nat.zero_le _
  | some p => show (flatW p.2).length + 1 <= 900; rw [flatW_len]; have : p.2.length <= 400 := hR; lia
 have a := t_split s0 s4 s5 dr (rps T) ls td (lineD (wds o)) (wdW o) (line_W o) hsm hlen
 rw [<- wds_W] at a
 generalize lineD (wds o) = s at *
 have p5 := j_5 s0 s4 s5 dr ls td s (rps T)
 cases o with
 | none =>
  have E := exs_cons a (exs_cons (t_no s0 s4 s5 dr (rps T) ls td s) exs_nil)
  rw [<- body2] at E
  refine forA_one p5 E ?_
  rw [j_6]
  first | done | rfl
 | some p =>
  obtain ⟨k, R⟩ := p
  have hR : R.length <= 400 := hR
  have c := t_if s0 s4 s5 dr (rps T) ls td s k.s (flatR R)
  have hs : shp (.list (.str k.s :: flatR R)) = true := by
   have := shp_strs (wdW (some (k, R)))
   rw [<- wds_W] at this
   exact this
  rw [hs] at c
  have d := t_del s0 s4 s5 dr (rps T) ls td s k (flatR R)
  rw [fit_of (by rw [List.length_cons, flatR_len]; lia), okT_rps (T := T) (le_c ‹_› rfl), rowsD_rps] at d
  have hk := keepK_len k T
  have f := j_for s0 s4 s5 dr ls td s (rps (keepK k T)) k (rps (keepK k T)) R hR (by rw [rps_len]; exact le_e ‹_› ‹_› rfl)
  have i : (up zA 30).ex cx1 (b2 1) (stW s0 s4 s5 dr (rps T) ls td s .unk (.str k.s :: flatR R)) = some (.next, stI s0 s4 s5 dr (rps (keepK k T) ++ rps R) ls td s .unk k (rps (keepK k T)) (.str k.s :: flatR R), true) := by
   rw [upA_ex, b2_1]
   refine exIf (T := TT) (r := up zA 29) (b := []) (p := posS (b2 1)) c ?_
   show exsA (up zA 29) cx1 [d2 0, d2 1] _ = _
   exact exs_cons d (exs_cons f exs_nil)
  have E := exs_cons a (exs_cons i exs_nil)
  rw [<- body2] at E
  refine forA_one p5 E ?_
  rw [j_4, <- rps_app]
  first | done | rfl
theorem undo_len (o : Option (Kd × List Row)) (T : List Row) : (undo o T).length <= T.length + nR o := by
 cases o with
 | none => exact Nat.le_refl _
 | some p =>
  have := keepK_len p.1 T
  show (keepK p.1 T ++ p.2).length <= T.length + p.2.length
  rw [List.length_append]; lia
theorem turns2 : ∀ (os : List (Option (Kd × List Row))) (T : List Row), (∀ o, o ∈ os -> nR o <= 400) -> T.length + 400 * os.length <= 4500 -> forA (up zA 30) cx1 (forT loop2) (forB loop2) (loopN (forT loop2) (forB loop2)) 16 (linesD os) (st2 s0 s4 s5 (frL .unk .unk .unk) dr (rps T) ls td) = some ((), st2 s0 s4 s5 (frL .unk .unk .unk) dr (rps (undoL os T)) ls td, true)
 | [], T, _, _ => ok_eq
 | o :: os, T, h, hl => by
  simp only [List.length_cons] at hl
  have ho := h o (List.mem_cons_self ..)
  have hu := undo_len o T
  exact forA_cons (turn2 s0 s4 s5 dr ls td o T ho (le_d ‹_› rfl)) (turns2 os (undo o T) (fun x m => h x (List.mem_cons_of_mem _ m)) (by lia))
theorem l2_eq : loop2 = .For (forT loop2) (forIe loop2) (forB loop2) [] (posS loop2) := by kernel_rfl!
theorem l2_N : notSet (forIe loop2) = true /\ isRange (forIe loop2) = none /\ isItems (forIe loop2) = none := ⟨by kernel_rfl!, by kernel_rfl!, by kernel_rfl!⟩
theorem l2_it : (up zA 30).ev cx1 (forIe loop2) (st1 s0 s4 s5 frB dr t ls td) = some (.ref 15, st1 s0 s4 s5 frB dr t ls td ++ [.list (revP ls [])], (fit ls && true)) := by kernel_rfl!
theorem l2_A : iterA (.ref 15) (st1 s0 s4 s5 frB dr t ls td ++ [.list (revP ls [])]) = some (revP ls [], some 15) := by kernel_rfl!
theorem l2_B : blur cx1 (loopN (forT loop2) (forB loop2)) (lockA (some 15) (st1 s0 s4 s5 frB dr t ls td ++ [.list (revP ls [])])) = st2 s0 s4 s5 (frL .unk .unk .unk) dr t ls td := by kernel_rfl!
theorem l2_L : len (st1 s0 s4 s5 frB dr t ls td ++ [.list (revP ls [])]) = 16 := by kernel_rfl!
noncomputable abbrev st3 (X : List PyData) : St := st1 s0 s4 s5 (frL .unk .unk .unk) dr t ls td ++ [.list X]
theorem l2_U (X : List PyData) : unlockA (some 15) X (st2 s0 s4 s5 (frL .unk .unk .unk) dr t ls td) = st3 s0 s4 s5 dr ls td t X := by kernel_rfl!
theorem revP_app : ∀ (l : List (Option (Kd × List Row))) (a : List (Option (Kd × List Row))), revP (linesD l) (linesD a) = linesD (l.reverse ++ a)
 | [], a => rfl
 | o :: l, a => by
  show revP (linesD l) (linesD (o :: a)) = _
  rw [revP_app l (o :: a), List.reverse_cons, List.append_assoc]
  rfl
theorem linesD_len : ∀ l, (linesD l).length = l.length
 | [] => rfl
 | x :: l => congrArg (· + 1) (linesD_len l)
theorem loop2_ex (os : List (Option (Kd × List Row))) (T : List Row) (h : ∀ o, o ∈ os -> nR o <= 400) (h1 : T.length + 400 * os.length <= 4500) : ∃ X, (up zA 31).ex cx1 loop2 (st1 s0 s4 s5 frB dr (rps T) (linesD os) td) = some (.next, st3 s0 s4 s5 dr (linesD os) td (rps (undoL os.reverse T)) X, true) := by
 have e : revP (linesD os) [] = linesD os.reverse := by
  have := revP_app os []
  rw [List.append_nil] at this
  exact this
 refine ⟨revP (linesD os) [], ?_⟩
 rw [upA_ex, l2_eq]
 have it := l2_it s0 s4 s5 dr (linesD os) td (rps T)
 rw [fit_of (by rw [linesD_len]; lia)] at it
 refine forSt_of l2_N.1 l2_N.2.1 l2_N.2.2 it (l2_A s0 s4 s5 dr _ td _) (fit_of (by rw [e, linesD_len, List.length_reverse]; lia)) (l2_B s0 s4 s5 dr _ td _) ?_ (l2_U s0 s4 s5 dr _ td _ _)
 rw [l2_L, e]
 exact turns2 s0 s4 s5 dr _ td os.reverse T (fun o m => h o (List.mem_reverse.1 m)) (by rw [List.length_reverse]; exact h1)
end
noncomputable def T0 : List Row := [(.b, .x), (.A, .i), (.c, .e), (.a, .e)]
theorem lineR_len : ∀ (l : List Nat) (T : List Row), (lineR l T).length = l.length
 | [], _ => rfl
 | r :: l, T => congrArg (· + 1) (lineR_len l _)
theorem tabs_len : ∀ (l : List Nat) (T : List Row), (tabs l T).length <= T.length + l.length
 | [], _ => Nat.le_refl _
 | r :: l, T => by
  have := tabs_len l (stepT (drOf r) T)
  have h := stepT_len (drOf r) T
  show (tabs l (stepT (drOf r) T)).length <= T.length + (l.length + 1)
  lia
set_option tactic.hygienic true in
theorem wdT_nR (p : List Row × List Row) (T : List Row) : nR (wdT p T) <= T.length := by
 unfold wdT
 split
 · exact Nat.zero_le _
 · rename_i k _
   exact rowsK_len k T
theorem lineR_nR : ∀ (l : List Nat) (T : List Row) (o), o ∈ lineR l T -> nR o <= T.length + l.length
 | [], _, _, h => nomatch h
 | r :: l, T, o, h => by
  rcases List.mem_cons.1 h with rfl | h
  · have := wdT_nR (uld T (stepT (drOf r) T)) T
    simp only [List.length_cons]; lia
  · have := lineR_nR l _ o h
    have h2 := stepT_len (drOf r) T
    simp only [List.length_cons]; lia
noncomputable def back (l : List Nat) (T : List Row) : List Row := undoL (lineR l T).reverse (tabs l T)
theorem undoL_len : ∀ (os : List (Option (Kd × List Row))) (T : List Row) (b : Nat), (∀ o, o ∈ os -> nR o <= b) -> (undoL os T).length <= T.length + b * os.length
 | [], T, b, _ => Nat.le_refl _
 | o :: os, T, b, h => by
  have := undoL_len os (undo o T) b fun x m => h x (List.mem_cons_of_mem _ m)
  have h2 := undo_len o T
  have h3 := h o (List.mem_cons_self ..)
  show (undoL os (undo o T)).length <= T.length + b * (os.length + 1)
  rw [Nat.mul_add, Nat.mul_one]
  lia
theorem back_len (l : List Nat) (T : List Row) (h : l.length <= 7) (hT : T.length <= 4) : (back l T).length <= 100 := by
 have h1 := tabs_len l T
 have h2 := undoL_len (lineR l T).reverse (tabs l T) 11 fun o m => by
  have := lineR_nR l T o (List.mem_reverse.1 m); lia
 rw [List.length_reverse, lineR_len] at h2
 unfold back
 lia
section
variable (s0 s4 s5 : List PyData)
noncomputable abbrev st4 (dr ls td t X : List PyData) : St := [AO.junk, AO.ns [(S "script", AV.dat (.list s0)), (S "rows", AV.ref 2), (S "draws", AV.ref 7)], AO.list rows0, AO.list [PyData.int 11], AO.list s4, AO.list s5, AO.junk, AO.list dr, AO.junk, AO.list t, AO.dict [(S "_headers", AV.ref 9)], AO.inst 190 10, AO.junk, AO.list ls, AO.list td, AO.list X, AO.junk, AO.list t, AO.tuple [AV.ref 14, AV.ref 17]]
theorem ret937 (dr ls td t X : List PyData) : bn2 (exsA (up zA 31) cx1 [s937 5] (st3 s0 s4 s5 dr ls td t X)) (fun f σ => ok f (setNth σ 8 .junk)) = some (.ret (.ref 18), st4 s0 s4 s5 dr ls td t X, ((((((((((fit t && true) && true) && true) && true) && true) && true) && true) && true) && true) && true)) := by kernel_rfl!
theorem body937 : fn937.body = [s937 0, s937 1, s937 2] ++ [loop1, loop2, s937 5] := by kernel_rfl!
theorem upA_937 {n : Nat} {σ : St} : (up zA (n + 1)).call 937 [.ref 2, .ref 7] [] σ = callA TT (up zA n) 937 [.ref 2, .ref 7] [] σ := by kernel_rfl
theorem fn937_ok : Nat.beq 937 908 = false /\ nlook 937 TT.fns = some [fn937] /\ pickFn (len [AV.ref 2, AV.ref 7]) [] [fn937] = some fn937 /\ bindsA [AV.ref 2, AV.ref 7] [] fn937.binds = some [(S "rows", .ref 2), (S "draws", .ref 7)] /\ fn937.kwd = none /\ fn937.cel = none := ⟨by kernel_rfl!, by kernel_rfl!, by kernel_rfl!, by kernel_rfl!, by kernel_rfl!, by kernel_rfl!⟩
theorem len_st0 (dr : List PyData) : len (st0 s0 s4 s5 dr) = 8 := by kernel_rfl!
theorem call937 (l : List Nat) (h : ∀ r, r ∈ l -> r < 54) (hl : l.length <= 7) : ∃ X, (up zA 32).call 937 [.ref 2, .ref 7] [] (st0 s0 s4 s5 (intsD l)) = some (.ref 18, st4 s0 s4 s5 (intsD l) (linesD (lineR l T0)) (toldD (toldR l T0)) (rps (back l T0)) X, true) := by
 have hT : T0.length = 4 := rfl
 have a := head1 s0 s4 s5 (intsD l)
 have b := loop1_ex s0 s4 s5 l T0 h (by lia)
 obtain ⟨X, c⟩ := loop2_ex s0 s4 s5 (intsD l) (toldD (toldR l T0)) (lineR l T0) (tabs l T0) (fun o m => by have := lineR_nR l T0 o m; lia) (by have := tabs_len l T0; rw [lineR_len]; lia)
 have d := ret937 s0 s4 s5 (intsD l) (linesD (lineR l T0)) (toldD (toldR l T0)) (rps (back l T0)) X
 rw [fit_of (by rw [rps_len]; have := back_len l T0 hl (by decide); exact le_c ‹_› rfl)] at d
 obtain ⟨f, σ', d2, e⟩ := bn2_some d
 obtain ⟨rfl, e2⟩ := ok_some e
 refine ⟨X, ?_⟩
 rw [upA_937]
 obtain ⟨a1, a2, a3, a4, a5, a6⟩ := fn937_ok
 have E : exsA (up zA 31) cx1 fn937.body (st0 s0 s4 s5 (intsD l) ++ [AO.ns [(S "rows", AV.ref 2), (S "draws", AV.ref 7)]]) = some (.ret (.ref 18), σ', true) := by
  rw [body937]
  exact exs_append a (exs_cons b (exs_cons c d2))
 have := callA_of (T := TT) (r := up zA 31) (f := 937) (vs := [.ref 2, .ref 7]) a1 a2 a3 a4 a5 a6 E
 rw [len_st0, e2] at this
 exact this
end
structure Bk where
 s0 : List PyData
 s4 : List PyData
 s5 : List PyData
 dr : List PyData
 ls : List PyData
 td : List PyData
 t : List PyData
 X : List PyData
noncomputable def stB (B : Bk) : St := st4 B.s0 B.s4 B.s5 B.dr B.ls B.td B.t B.X
noncomputable def s942 (i : Nat) : Stmt := (nth fn942.body i).getD noStmt
noncomputable def cxD : Cx := ⟨19, fn942.fd.scope, [(S "rows", 20)]⟩
noncomputable def loop3 : Stmt := s942 4
noncomputable def e3 (i : Nat) : Stmt := (nth (forB loop3) i).getD noStmt
noncomputable abbrev frD (k pair kind gone came : AV) : AO := .ns [(S "draws", .ref 7), (S "now", .ref 21), (S "changed", .ref 24), (S "stored", .ref 25), (S "told", .ref 26), (S "k", k), (S "pair", pair), (S "kind", kind), (S "gone", gone), (S "came", came)]
noncomputable def stE (B : Bk) (f : AO) (N C O D : List PyData) (e : St) : St := stB B ++ ([f, .cell (.ref 2), .list N, .junk, .cell .unk, .list C, .list O, .list D] ++ e)
noncomputable abbrev LV : List PyData := [.str (S ""), .str (S "it's"), .str (S "x y")]
noncomputable def Kd.j : Kd -> Nat
 | .a => 0 | .b => 1 | .c => 2
noncomputable def NK (k : Kd) (x y z : PyData) : List PyData := match k with
 | .a => [x, y, z] | .b => [y, x, z] | .c => [y, z, x]
noncomputable def ifB' : Stmt -> List Stmt
 | .If _ _ b _ => b
 | _ => []
noncomputable abbrev pr (d : Row) : PyData := .tuple [.str d.1.s, .str d.2.s]
noncomputable abbrev e0 : St := [.junk, .list LV, .list [], .list []]
noncomputable abbrev fk (j : Nat) (d : Row) (gone came : AV) : AO := frD (.int (.ofNat j)) (.dat (pr d)) (.int (.ofNat d.1.k.j)) gone came
section
variable (B : Bk) (j : Nat) (N C O D : List PyData)
theorem p_call (d : Dr) : (up zA 28).call 923 [.int (.ofNat (code d))] [] (stE B (frD (.int (.ofNat j)) .unk .unk .unk .unk) N C O D []) = some (.dat (pr d.2), stE B (frD (.int (.ofNat j)) .unk .unk .unk .unk) N C O D [.junk, .list LV], true) := by
 obtain ⟨o, n, v⟩ := d
 cases o <;> cases n <;> cases v <;> kernel_rfl!
theorem p_pair (d : Row) : storeL cxD (S "pair") (.dat (pr d)) (stE B (frD (.int (.ofNat j)) .unk .unk .unk .unk) N C O D [.junk, .list LV]) = some (stE B (frD (.int (.ofNat j)) (.dat (pr d)) .unk .unk .unk) N C O D [.junk, .list LV]) := by kernel_rfl!
theorem p_1 (d : Row) : (up zA 30).ex cxD (e3 1) (stE B (frD (.int (.ofNat j)) (.dat (pr d)) .unk .unk .unk) N C O D [.junk, .list LV]) = some (.next, stE B (fk j d .unk .unk) N C O D [.junk, .list LV], true) := by
 obtain ⟨n, v⟩ := d
 cases n <;> kernel_rfl!
theorem p_23 (d : Row) : exsA (up zA 30) cxD [e3 2, e3 3] (stE B (fk j d .unk .unk) N C O D [.junk, .list LV]) = some (.next, stE B (fk j d (.ref 29) (.ref 30)) N C O D e0, true) := by kernel_rfl!
variable (L G H E2 : List PyData) (M1 M2 : PyData)
theorem p_4 (d : Row) : exsA (up zA 29) cxD (ifA' (e3 4)) (stE B (fk j d (.ref 29) (.ref 30)) (NK d.1.k (.list L) M1 M2) C O D e0) = some (.next, stE B (fk j d (.ref 31) (.ref 30)) (NK d.1.k (.list L) M1 M2) C O D (e0 ++ [.list (revP L [])]), (((fit L && true) && true) && true)) := by
 obtain ⟨n, v⟩ := d
 cases n <;> kernel_rfl!
theorem p_5g (d : Row) : exsA (up zA 29) cxD (ifA' (e3 5)) (stE B (fk j d (.ref 31) (.ref 30)) N C O D (e0 ++ [.list G])) = some (.next, stE B (fk j d (.ref 31) (.ref 32)) N C O D (e0 ++ [.list G, .list [pr d]]), true) := by kernel_rfl!
theorem p_5a (d : Row) : exsA (up zA 29) cxD (ifA' (e3 5)) (stE B (fk j d (.ref 29) (.ref 30)) N C O D e0) = some (.next, stE B (fk j d (.ref 29) (.ref 31)) N C O D (e0 ++ [.list [pr d]]), true) := by kernel_rfl!
noncomputable def inE : Expr := match ifT4 (e3 6) with | .BoolOp _ [_, e] _ => e | e => e
theorem p_6in (d : Row) : (up zA 28).tr cxD inE (stE B (fk j d (.ref 31) (.ref 32)) N C O D (e0 ++ [.list G, .list [pr d]])) = some (memP (pr d) G, stE B (fk j d (.ref 31) (.ref 32)) N C O D (e0 ++ [.list G, .list [pr d]]), (shp (pr d) && (shp (.list G) && true))) := by kernel_rfl!
noncomputable def b6 (i : Nat) : Stmt := (nth (ifA' (e3 6)) i).getD noStmt
theorem p_6came (d : Row) : (up zA 29).ex cxD (b6 1) (stE B (fk j d (.ref 31) (.ref 32)) N C O D (e0 ++ [.list G, .list [pr d]])) = some (.next, stE B (fk j d (.ref 31) (.ref 33)) N C O D (e0 ++ [.list G, .list [pr d], .list []]), true) := by kernel_rfl!
theorem p_7so (d : Row) : exsA (up zA 29) cxD (ifA' (e3 7)) (stE B (fk j d (.ref 31) (.ref 32)) (NK d.1.k (.list L) M1 M2) C O D (e0 ++ [.list G, .list [pr d]])) = some (.next, stE B (fk j d (.ref 31) (.ref 32)) (NK d.1.k (.list [pr d]) M1 M2) C O D (e0 ++ [.list G, .list [pr d], .frl [pr d]]), true) := by
 obtain ⟨n, v⟩ := d
 cases n <;> kernel_rfl!
theorem p_7si (d : Row) : exsA (up zA 29) cxD (ifA' (e3 7)) (stE B (fk j d (.ref 31) (.ref 33)) (NK d.1.k (.list L) M1 M2) C O D (e0 ++ [.list G, .list [pr d], .list []])) = some (.next, stE B (fk j d (.ref 31) (.ref 33)) (NK d.1.k (.list [pr d]) M1 M2) C O D (e0 ++ [.list G, .list [pr d], .list [], .frl [pr d]]), true) := by
 obtain ⟨n, v⟩ := d
 cases n <;> kernel_rfl!
noncomputable def el7 : Stmt := (nth (ifB' (e3 7)) 0).getD noStmt
theorem p_7a (d : Row) : exsA (up zA 28) cxD (ifA' el7) (stE B (fk j d (.ref 29) (.ref 31)) (NK d.1.k (.list L) M1 M2) C O D (e0 ++ [.list [pr d]])) = some (.next, stE B (fk j d (.ref 29) (.ref 31)) (NK d.1.k (.list (L ++ [pr d])) M1 M2) C O D (e0 ++ [.list [pr d], .list [pr d], .frl (L ++ [pr d])]), ((((fit L && true) && true) && true))) := by
 obtain ⟨n, v⟩ := d
 cases n <;> kernel_rfl!
theorem p_7d (d : Row) : exsA (up zA 28) cxD (ifB' el7) (stE B (fk j d (.ref 31) (.ref 30)) (NK d.1.k (.list L) M1 M2) C O D (e0 ++ [.list G])) = some (.next, stE B (fk j d (.ref 31) (.ref 30)) (NK d.1.k (.list []) M1 M2) C O D (e0 ++ [.list G, .frl []]), true) := by
 obtain ⟨n, v⟩ := d
 cases n <;> kernel_rfl!
inductive Wy where
 | so | si | ad | de
noncomputable def wf (w : Wy) (j : Nat) (d : Row) : AO := match w with
 | .so => fk j d (.ref 31) (.ref 32)
 | .si => fk j d (.ref 31) (.ref 33)
 | .ad => fk j d (.ref 29) (.ref 31)
 | .de => fk j d (.ref 31) (.ref 30)
noncomputable def we (w : Wy) (G H E2 : List PyData) : St := match w with
 | .so => e0 ++ [.list G, .list H, .frl E2]
 | .si => e0 ++ [.list G, .list H, .list [], .frl E2]
 | .ad => e0 ++ [.list H, .list G, .frl E2]
 | .de => e0 ++ [.list G, .frl E2]
noncomputable def we' (w : Wy) (G H E2 : List PyData) : St := match w with
 | .so => e0 ++ [.frl G, .frl H, .frl E2, .junk]
 | .si => e0 ++ [.frl G, .list H, .frl [], .frl E2, .junk]
 | .ad => [.junk, .list LV, .frl [], .list [], .frl H, .list G, .frl E2, .junk]
 | .de => [.junk, .list LV, .list [], .frl [], .frl G, .frl E2, .junk]
noncomputable def wG (w : Wy) (G : List PyData) : List PyData := match w with
 | .ad => []
 | _ => G
noncomputable def wH (w : Wy) (H : List PyData) : List PyData := match w with
 | .so => H
 | .ad => H
 | _ => []
theorem p_8 (d : Row) (w : Wy) : (up zA 30).ex cxD (e3 8) (stE B (wf w j d) N C O D (we w G H E2)) = some (.next, stE B (wf w j d) N C O (D ++ [.tuple [.list (wG w G), .list (wH w H)]]) (we' w G H E2), ((fit D && true) && true)) := by
 cases w <;> kernel_rfl!
noncomputable def imin (x : Int) (j : Nat) : Int := match ilt (.ofNat j) x with | true => .ofNat j | false => x
theorem p_9 (d : Row) (w : Wy) (x y z : Int) (g : PyData) (K R : List PyData) (hG : wG w G = g :: K) (hH : wH w H = R) : bn2 ((up zA 30).ex cxD (e3 9) (stE B (wf w j d) N (NK d.1.k (.int x) (.int y) (.int z)) O D (we' w G H E2))) (fun f σ => ok f (blur cxD (loopN (forT loop3) (forB loop3)) (cutS 27 27 σ))) = some (.next, stE B (frD .unk .unk .unk .unk .unk) N (NK d.1.k (.int (imin x j)) (.int y) (.int z)) O D [], ((((fit (g :: K) && (fit R && true)) && ((shp (.list (g :: (K ++ R))) && true) && true)) && true) && true)) := by
 subst hH
 obtain ⟨n, v⟩ := d
 cases w with
 | ad => cases hG
 | so => cases hG; cases n <;> kernel_rfl!
 | si => cases hG; cases n <;> kernel_rfl!
 | de => cases hG; cases n <;> kernel_rfl!
theorem p_9h (d : Row) (w : Wy) (x y z : Int) (g : PyData) (K : List PyData) (hG : wG w G = []) (hH : wH w H = g :: K) : bn2 ((up zA 30).ex cxD (e3 9) (stE B (wf w j d) N (NK d.1.k (.int x) (.int y) (.int z)) O D (we' w G H E2))) (fun f σ => ok f (blur cxD (loopN (forT loop3) (forB loop3)) (cutS 27 27 σ))) = some (.next, stE B (frD .unk .unk .unk .unk .unk) N (NK d.1.k (.int (imin x j)) (.int y) (.int z)) O D [], ((((fit (g :: K) && true) && ((shp (.list (g :: K)) && true) && true)) && true) && true)) := by
 obtain ⟨n, v⟩ := d
 cases w with
 | so => cases hG; cases hH; cases n <;> kernel_rfl!
 | ad => cases hH; cases n <;> kernel_rfl!
 | si => cases hH
 | de => cases hH
theorem p_9n (d : Row) (w : Wy) (hG : wG w G = []) (hH : wH w H = []) : ∃ e, (up zA 29).tr cxD (ifT4 (e3 9)) (stE B (wf w j d) N C O D (we' w G H E2)) = some (false, stE B (wf w j d) N C O D (we' w G H E2 ++ e), true) := by
 refine ⟨[.list [], .list []], ?_⟩
 cases w with
 | so => cases hG; cases hH; kernel_rfl!
 | si => cases hG; kernel_rfl!
 | ad => cases hH; kernel_rfl!
 | de => cases hG; kernel_rfl!
noncomputable def el9 : Stmt := (nth (ifB' (e3 9)) 0).getD noStmt
theorem p_9s (d : Row) (w : Wy) (x y z : Int) (e : St) : exsA (up zA 28) cxD (ifA' el9) (stE B (wf w j d) N C (NK d.1.k (.int x) (.int y) (.int z)) D e) = some (.next, stE B (wf w j d) N C (NK d.1.k (.int (.ofNat j)) (.int y) (.int z)) D e, true) := by
 obtain ⟨n, v⟩ := d
 cases w <;> cases n <;> kernel_rfl!
theorem p_cut (d : Row) (w : Wy) (e : St) : blur cxD (loopN (forT loop3) (forB loop3)) (cutS 27 27 (stE B (wf w j d) N C O D e)) = stE B (frD .unk .unk .unk .unk .unk) N C O D [] := by
 cases w <;> kernel_rfl!
end
section
variable {T : Tp} {r : Rec} {c : Cx} {σ σ₁ σ2 : St}
theorem fmod_nat (m n : Nat) : Int.fmod (.ofNat m) (.ofNat n) = .ofNat (m % n) := by
 cases m with
 | zero => exact congrArg Int.ofNat (Nat.zero_mod n).symm
 | succ m => rfl
theorem bin_mod (m : Nat) (σ : St) : binA .Mod (.int (.ofNat m)) (.int 3) σ = some (.int (.ofNat (m % 3)), σ, true) := by
 have e : binA .Mod (.int (.ofNat m)) (.int 3) σ = some (.int (Int.fmod (.ofNat m) (.ofNat 3)), σ, true) := by kernel_rfl!
 rw [e, fmod_nat]
theorem ev_mod {o k : Expr} {p1 p2 p3 : Pos} {u : Addr} {m : Nat} (h : r.ev c (.Subscript o k p1) σ = some (.int (.ofNat m), σ₁, true)) (h2 : r.ev c (.Constant (.int 3) u p2) σ₁ = some (.int 3, σ₁, true)) : evA T r c (.BinOp (.Subscript o k p1) .Mod (.Constant (.int 3) u p2) p3) σ = some (.int (.ofNat (m % 3)), σ₁, true) := by
 show binX T r c _ _ _ σ = _
 unfold binX
 rw [show quotE (.Subscript o k p1) (.Constant (.int 3) u p2) = none by kernel_rfl!]
 exact bn2_of h (bn2_of h2 (bin_mod m σ₁))
theorem ap_remove {i : Nat} {d l k : List PyData} (h1 : nth σ i = some (.list l)) (h2 : remP (.tuple d) l = some k) (h3 : fit l = true) (h4 : shp (.tuple d) = true) (h5 : shp (.list l) = true) : applyM T r (.remove i) [.dat (.tuple d)] [] σ = some (.none, setNth σ i (.list k), true) := by
 exact gd_of rfl (bnd_of (oneV_one _) (bnd_of (a := d) rfl (bnd_of (a := l) (by rw [h1]; rfl) (bnd_of h2 (chk_of h3 (chk_of h4 (chk_of h5 ok_eq)))))))
end
noncomputable abbrev tE (q1 q2 q3 q4 q5 q6 q7 : Pos) (u1 u2 : Addr) (op : CmpOp) (m : Nat) : Expr := .Compare (.BinOp (.Subscript (.Name (S "draws") q1) (.Name (S "k") q2) q3) .Mod (.Constant (.int 3) u1 q4) q5) [op] [.Constant (.int (.ofNat m)) u2 q6] q7
theorem upA_name {n : Nat} {c : Cx} {x : Str} {p : Pos} {σ : St} : (up zA (n + 1)).ev c (.Name x p) σ = nameA TT c x σ := by kernel_rfl
theorem upA_int {n : Nat} {c : Cx} {i : Int} {u : Addr} {p : Pos} {σ : St} : (up zA (n + 1)).ev c (.Constant (.int i) u p) σ = some (.int i, σ, true) := by kernel_rfl
theorem tst {n : Nat} {σ : St} {dr : List PyData} {j m q : Nat} {op : CmpOp} {b : Bool} {q1 q2 q3 q4 q5 q6 q7 : Pos} {u1 u2 : Addr} (hd : nameA TT cxD (S "draws") σ = some (.ref 7, σ, true)) (hk : nameA TT cxD (S "k") σ = some (.int (.ofNat j), σ, true)) (hl : lsAt σ 7 = some dr) (hn : nth dr j = some (.int (.ofNat m))) (hf : fit dr = true) (hc : cmpA op (.int (.ofNat (m % 3))) (.int (.ofNat q)) σ = some (b, σ, true)) : (up zA (n + 4)).tr cxD (tE q1 q2 q3 q4 q5 q6 q7 u1 u2 op q) σ = some (b, σ, true) := by
 rw [upA_tr]
 refine bnd_of (oneV_one _) (bnd_of (oneV_one _) (gd_of rfl ?_))
 have a : (up zA (n + 2)).ev cxD (.Subscript (.Name (S "draws") q1) (.Name (S "k") q2) q3) σ = some (.int (.ofNat m), σ, true) := by
  rw [upA_ev]
  exact ev_item (by kernel_rfl!) (by kernel_rfl!) rfl (by rw [upA_name]; exact hd) (by rw [upA_name]; exact hk) hl hn hf
 have a2 : (up zA (n + 3)).ev cxD (.BinOp (.Subscript (.Name (S "draws") q1) (.Name (S "k") q2) q3) .Mod (.Constant (.int 3) u1 q4) q5) σ = some (.int (.ofNat (m % 3)), σ, true) := by
  rw [upA_ev]
  exact ev_mod a upA_int
 exact bn2_of a2 (bn2_of upA_int hc)
theorem memP_rps (d : Row) : ∀ l : List Row, memP (rp d) (rps l) = (remR d l).isSome
 | [] => rfl
 | r :: l => by
  show (match pdEq (rp r) (rp d) with | true => true | false => memP (rp d) (rps l)) = _
  rw [pdEq_rp, memP_rps d l, remR]
  cases req r d
  · dsimp only; cases remR d l <;> rfl
  · rfl
theorem revP_rps : ∀ l a : List Row, revP (rps l) (rps a) = rps (l.reverse ++ a)
 | [], a => rfl
 | r :: l, a => by
  show revP (rps l) (rps (r :: a)) = _
  rw [revP_rps l (r :: a), List.reverse_cons, List.append_assoc]
  rfl
theorem e3_eqs : e3 0 = .Assign [.Name (S "pair") ⟨888, 8, 888, 12⟩] (.Call (.Name (S "_law_pair") ⟨888, 15, 888, 24⟩) [.Subscript (.Name (S "draws") ⟨888, 25, 888, 30⟩) (.Name (S "k") ⟨888, 31, 888, 32⟩) ⟨888, 25, 888, 33⟩] [] ⟨888, 15, 888, 34⟩) ⟨888, 8, 888, 34⟩ := by kernel_rfl!
theorem e3_4 : e3 4 = .If (tE ⟨892, 11, 892, 16⟩ ⟨892, 17, 892, 18⟩ ⟨892, 11, 892, 19⟩ ⟨892, 22, 892, 23⟩ ⟨892, 11, 892, 23⟩ ⟨892, 27, 892, 28⟩ ⟨892, 11, 892, 28⟩ 0 0 .NotEq 1) (ifA' (e3 4)) [] (posS (e3 4)) := by kernel_rfl!
theorem e3_5 : e3 5 = .If (tE ⟨894, 11, 894, 16⟩ ⟨894, 17, 894, 18⟩ ⟨894, 11, 894, 19⟩ ⟨894, 22, 894, 23⟩ ⟨894, 11, 894, 23⟩ ⟨894, 27, 894, 28⟩ ⟨894, 11, 894, 28⟩ 0 0 .NotEq 2) (ifA' (e3 5)) [] (posS (e3 5)) := by kernel_rfl!
theorem e3_6 : e3 6 = .If (.BoolOp .And [tE ⟨896, 11, 896, 16⟩ ⟨896, 17, 896, 18⟩ ⟨896, 11, 896, 19⟩ ⟨896, 22, 896, 23⟩ ⟨896, 11, 896, 23⟩ ⟨896, 27, 896, 28⟩ ⟨896, 11, 896, 28⟩ 0 0 .Eq 0, inE] ⟨896, 11, 896, 45⟩) [b6 0, b6 1] [] (posS (e3 6)) := by kernel_rfl!
theorem b6_0 : b6 0 = .Expr (.Call (.Attribute (.Name (S "gone") ⟨897, 12, 897, 16⟩) (S "remove") ⟨897, 12, 897, 23⟩) [.Name (S "pair") ⟨897, 24, 897, 28⟩] [] ⟨897, 12, 897, 29⟩) ⟨897, 12, 897, 29⟩ := by kernel_rfl!
theorem e3_7 : e3 7 = .If (tE ⟨899, 11, 899, 16⟩ ⟨899, 17, 899, 18⟩ ⟨899, 11, 899, 19⟩ ⟨899, 22, 899, 23⟩ ⟨899, 11, 899, 23⟩ ⟨899, 27, 899, 28⟩ ⟨899, 11, 899, 28⟩ 0 0 .Eq 0) (ifA' (e3 7)) [el7] (posS (e3 7)) := by kernel_rfl!
theorem el7_eq : el7 = .If (tE ⟨901, 13, 901, 18⟩ ⟨901, 19, 901, 20⟩ ⟨901, 13, 901, 21⟩ ⟨901, 24, 901, 25⟩ ⟨901, 13, 901, 25⟩ ⟨901, 29, 901, 30⟩ ⟨901, 13, 901, 30⟩ 0 0 .Eq 1) (ifA' el7) (ifB' el7) (posS el7) := by kernel_rfl!
theorem e3_9 : e3 9 = .If (ifT4 (e3 9)) (ifA' (e3 9)) [el9] (posS (e3 9)) := by kernel_rfl!
theorem el9_eq : el9 = .If (tE ⟨908, 13, 908, 18⟩ ⟨908, 19, 908, 20⟩ ⟨908, 13, 908, 21⟩ ⟨908, 24, 908, 25⟩ ⟨908, 13, 908, 25⟩ ⟨908, 29, 908, 30⟩ ⟨908, 13, 908, 30⟩ 0 0 .Eq 0) (ifA' el9) [] (posS el9) := by kernel_rfl!
theorem body3 : forB loop3 = [e3 0] ++ ([e3 1] ++ ([e3 2, e3 3] ++ [e3 4, e3 5, e3 6, e3 7, e3 8, e3 9])) := by kernel_rfl!
noncomputable def upd {α : Type} (k : Kd) (x : α) (f : Kd -> α) : Kd -> α := fun k' => match keq k' k with | true => x | false => f k'
noncomputable def nowP (N : Kd -> List Row) : List PyData := [.list (rps (N .a)), .list (rps (N .b)), .list (rps (N .c))]
noncomputable def intPe (C : Kd -> Int) : List PyData := [.int (C .a), .int (C .b), .int (C .c)]
noncomputable def oth1 {α : Type} (k : Kd) (f : Kd -> α) : α := match k with | .a => f .b | .b => f .a | .c => f .a
noncomputable def oth2 {α : Type} (k : Kd) (f : Kd -> α) : α := match k with | .a => f .c | .b => f .c | .c => f .b
theorem now_NK (k : Kd) (N : Kd -> List Row) : nowP N = NK k (.list (rps (N k))) (.list (rps (oth1 k N))) (.list (rps (oth2 k N))) := by cases k <;> rfl
theorem NK_now (k : Kd) (N : Kd -> List Row) (x : List Row) : NK k (.list (rps x)) (.list (rps (oth1 k N))) (.list (rps (oth2 k N))) = nowP (upd k x N) := by cases k <;> rfl
theorem int_NK (k : Kd) (C : Kd -> Int) : intPe C = NK k (.int (C k)) (.int (oth1 k C)) (.int (oth2 k C)) := by cases k <;> rfl
theorem NK_int (k : Kd) (C : Kd -> Int) (x : Int) : NK k (.int x) (.int (oth1 k C)) (.int (oth2 k C)) = intPe (upd k x C) := by cases k <;> rfl
noncomputable def qT (d : Dr) (N : Kd -> List Row) : List Row × List Row := match d.1 with
 | .st => (match remR d.2 (N d.2.1.k).reverse with | some g => (g, []) | none => ((N d.2.1.k).reverse, [d.2]))
 | .ad => ([], [d.2])
 | .de => ((N d.2.1.k).reverse, [])
noncomputable def qN (d : Dr) (N : Kd -> List Row) : Kd -> List Row := upd d.2.1.k (match d.1 with | .st => [d.2] | .ad => N d.2.1.k ++ [d.2] | .de => []) N
noncomputable def told (p : List Row × List Row) : Bool := match p.1 ++ p.2 with | [] => false | _ :: _ => true
noncomputable def qC (d : Dr) (j : Nat) (N : Kd -> List Row) (C : Kd -> Int) : Kd -> Int := match told (qT d N) with | true => upd d.2.1.k (imin (C d.2.1.k) j) C | false => C
noncomputable def qO (d : Dr) (j : Nat) (N : Kd -> List Row) (O : Kd -> Int) : Kd -> Int := match told (qT d N), d.1 with | false, .st => upd d.2.1.k (.ofNat j) O | _, _ => O
theorem code_mod (d : Dr) : code d % 3 = d.1.j := by
 obtain ⟨o, n, v⟩ := d
 cases o <;> cases n <;> cases v <;> decide
structure Fits (N : Kd -> List Row) (D : List PyData) (B : Bk) : Prop where
 n : ∀ k, (N k).length <= 900
 d : D.length <= 900
 b : B.dr.length <= 900
section
variable (B : Bk) (j : Nat) (d : Dr) (N : Kd -> List Row) (C O : Kd -> Int) (D : List PyData)
theorem n_dr (k pair kind gone came : AV) (N C O D : List PyData) (e : St) : nameA TT cxD (S "draws") (stE B (frD k pair kind gone came) N C O D e) = some (.ref 7, stE B (frD k pair kind gone came) N C O D e, true) := by kernel_rfl!
theorem n_k (pair kind gone came : AV) (N C O D : List PyData) (e : St) : nameA TT cxD (S "k") (stE B (frD (.int (.ofNat j)) pair kind gone came) N C O D e) = some (.int (.ofNat j), stE B (frD (.int (.ofNat j)) pair kind gone came) N C O D e, true) := by kernel_rfl!
theorem n_7 (f : AO) (N C O D : List PyData) (e : St) : lsAt (stE B f N C O D e) 7 = some B.dr := by kernel_rfl!
theorem n_lp (k pair kind gone came : AV) (N C O D : List PyData) (e : St) : nameA TT cxD (S "_law_pair") (stE B (frD k pair kind gone came) N C O D e) = some (.raw (.ref 923), stE B (frD k pair kind gone came) N C O D e, true) := by kernel_rfl!
theorem look923 : nlook 923 TT.fns = some [fn923] := by kernel_rfl!
theorem cE (a b : Nat) (σ : St) : cmpA .Eq (.int (.ofNat a)) (.int (.ofNat b)) σ = some (Nat.beq a b, σ, true) := by kernel_rfl!
theorem cN (a b : Nat) (σ : St) : cmpA .NotEq (.int (.ofNat a)) (.int (.ofNat b)) σ = some (!Nat.beq a b, σ, true) := by kernel_rfl!
theorem tstE {n q : Nat} {op : CmpOp} {b : Bool} {q1 q2 q3 q4 q5 q6 q7 : Pos} {u1 u2 : Addr} {pair kind gone came : AV} {N C O D : List PyData} {e : St} (hj : nth B.dr j = some (.int (.ofNat (code d)))) (hb : B.dr.length <= 900) (hc : ∀ σ, cmpA op (.int (.ofNat d.1.j)) (.int (.ofNat q)) σ = some (b, σ, true)) : (up zA (n + 4)).tr cxD (tE q1 q2 q3 q4 q5 q6 q7 u1 u2 op q) (stE B (frD (.int (.ofNat j)) pair kind gone came) N C O D e) = some (b, stE B (frD (.int (.ofNat j)) pair kind gone came) N C O D e, true) :=
 tst (n_dr B _ _ _ _ _ _ _ _ _ _) (n_k B j _ _ _ _ _ _ _ _ _) (n_7 B _ _ _ _ _ _) hj (fit_of (le_c ‹_› rfl)) (by rw [code_mod]; exact hc _)
theorem p_0 (N C O D : List PyData) (hj : nth B.dr j = some (.int (.ofNat (code d)))) (hb : B.dr.length <= 900) : (up zA 30).ex cxD (e3 0) (stE B (frD (.int (.ofNat j)) .unk .unk .unk .unk) N C O D []) = some (.next, stE B (frD (.int (.ofNat j)) (.dat (pr d.2)) .unk .unk .unk) N C O D [.junk, .list LV], true) := by
 rw [upA_ex, e3_eqs]
 refine ex_asg rfl ?_ (p_pair B j N C O D d.2)
 rw [upA_ev]
 refine ev_fn (n_lp B _ _ _ _ _ _ _ _ _ _) look923 rfl ?_ (p_call B j N C O D d)
 exact bn2_of (upA_ev.trans (ev_item (by kernel_rfl!) (by kernel_rfl!) rfl (upA_name.trans (n_dr B _ _ _ _ _ _ _ _ _ _)) (upA_name.trans (n_k B j _ _ _ _ _ _ _ _ _)) (n_7 B _ _ _ _ _ _) hj (fit_of (le_c ‹_› rfl)))) (bn2_of ok_eq ok_eq)
theorem if_no {n : Nat} {c : Cx} {s : Stmt} {t : Expr} {a : List Stmt} {p : Pos} {σ : St} (hs : s = .If t a [] p) (h : (up zA n).tr c t σ = some (false, σ, true)) : (up zA (n + 1)).ex c s σ = some (.next, σ, true) := by
 subst hs
 rw [upA_ex]
 exact exIf (T := TT) (r := up zA n) (a := a) (p := p) h (exs_nil : exsA (up zA n) c [] σ = some (.next, σ, true))
theorem if_yes {n : Nat} {c : Cx} {s : Stmt} {t : Expr} {a b : List Stmt} {p : Pos} {σ σ₁ σ2 : St} {f : Fl} (hs : s = .If t a b p) (h : (up zA n).tr c t σ = some (true, σ₁, true)) (h2 : exsA (up zA n) c a σ₁ = some (f, σ2, true)) : (up zA (n + 1)).ex c s σ = some (f, σ2, true) := by
 subst hs
 rw [upA_ex]
 exact exIf (T := TT) (r := up zA n) (a := a) (p := p) h h2
theorem if_else {n : Nat} {c : Cx} {s : Stmt} {t : Expr} {a b : List Stmt} {p : Pos} {σ σ₁ σ2 : St} {f : Fl} (hs : s = .If t a b p) (h : (up zA n).tr c t σ = some (false, σ₁, true)) (h2 : exsA (up zA n) c b σ₁ = some (f, σ2, true)) : (up zA (n + 1)).ex c s σ = some (f, σ2, true) := by
 subst hs
 rw [upA_ex]
 exact exIf (T := TT) (r := up zA n) (a := a) (p := p) h h2
theorem exs_one {r : Rec} {c : Cx} {s : Stmt} {σ σ₁ : St} (h : r.ex c s σ = some (.next, σ₁, true)) : exsA r c [s] σ = some (.next, σ₁, true) := exs_cons h exs_nil
theorem q_04 (N C O D : List PyData) (hj : nth B.dr j = some (.int (.ofNat (code d)))) (hb : B.dr.length <= 900) {l : List Stmt} {σ : St} {f : Fl} (h : exsA (up zA 30) cxD l (stE B (fk j d.2 (.ref 29) (.ref 30)) N C O D e0) = some (f, σ, true)) : exsA (up zA 30) cxD ([e3 0] ++ ([e3 1] ++ ([e3 2, e3 3] ++ l))) (stE B (frD (.int (.ofNat j)) .unk .unk .unk .unk) N C O D []) = some (f, σ, true) :=
 exs_append (exs_one (p_0 B j d N C O D hj hb)) (exs_append (exs_one (p_1 B j N C O D d.2)) (exs_append (p_23 B j N C O D d.2) h))
noncomputable def wy (d : Dr) (N : Kd -> List Row) : Wy := match d.1 with
 | .st => (match remR d.2 (N d.2.1.k).reverse with | some _ => .si | none => .so)
 | .ad => .ad
 | .de => .de
noncomputable abbrev stR (j : Nat) (d : Row) (N C O D G : List PyData) : St := stE B (fk j d (.ref 31) (.ref 32)) N C O D (e0 ++ [.list G, .list [pr d]])
theorem r_g (N C O D G : List PyData) (d : Row) : (up zA 27).ev cxD (.Name (S "gone") ⟨897, 12, 897, 16⟩) (stR B j d N C O D G) = some (.ref 31, stR B j d N C O D G, true) := by kernel_rfl!
theorem r_f (N C O D G : List PyData) (d : Row) : findM TT (.ref 31) (S "remove") (stR B j d N C O D G) = some (.remove 31) := by kernel_rfl!
theorem r_p (N C O D G : List PyData) (d : Row) : evsA (up zA 27) cxD [.Name (S "pair") ⟨897, 24, 897, 28⟩] (stR B j d N C O D G) = some ([.dat (pr d)], stR B j d N C O D G, true) := by kernel_rfl!
theorem r_n (N C O D G : List PyData) (d : Row) : nth (stR B j d N C O D G) 31 = some (.list G) := by kernel_rfl!
theorem r_s (N C O D G K : List PyData) (d : Row) : setNth (stR B j d N C O D G) 31 (.list K) = stR B j d N C O D K := by kernel_rfl!
theorem rp_pr (d : Row) : rps [d] = [pr d] := rfl
theorem q_47 (C O D : List PyData) (hj : nth B.dr j = some (.int (.ofNat (code d)))) (F : Fits N D B) : ∃ G H E2, wG (wy d N) G = rps (qT d N).1 /\ wH (wy d N) H = rps (qT d N).2 /\
 ∀ {l : List Stmt} {σ : St} {f : Fl}, exsA (up zA 30) cxD l (stE B (wf (wy d N) j d.2) (nowP (qN d N)) C O D (we (wy d N) G H E2)) = some (f, σ, true) -> exsA (up zA 30) cxD (e3 4 :: e3 5 :: e3 6 :: e3 7 :: l) (stE B (fk j d.2 (.ref 29) (.ref 30)) (nowP N) C O D e0) = some (f, σ, true) := by
 have hb := F.b
 have hL : fit (rps (N d.2.1.k)) = true := fit_of (by rw [rps_len]; have := F.n d.2.1.k; exact le_c ‹_› rfl)
 have hR : fit (rps (N d.2.1.k).reverse) = true := fit_of (by rw [rps_len, List.length_reverse]; have := F.n d.2.1.k; exact le_c ‹_› rfl)
 obtain ⟨o, row⟩ := d
 dsimp only at *
 cases o with
 | st =>
  have t4 := fun (l : List Stmt) (σ : St) (f : Fl) => p_4 B j C O D (rps (N row.1.k)) (.list (rps (oth1 row.1.k N))) (.list (rps (oth2 row.1.k N))) row
  have s4 : (up zA 30).ex cxD (e3 4) (stE B (fk j row (.ref 29) (.ref 30)) (nowP N) C O D e0) = some (.next, stE B (fk j row (.ref 31) (.ref 30)) (nowP N) C O D (e0 ++ [.list (rps (N row.1.k).reverse)]), true) := by
   refine if_yes e3_4 (tstE B j (.st, row) hj hb fun ι => cN _ _ _) ?_
   have p := p_4 B j C O D (rps (N row.1.k)) (.list (rps (oth1 row.1.k N))) (.list (rps (oth2 row.1.k N))) row
   rw [hL, <- now_NK, show revP (rps (N row.1.k)) [] = rps (N row.1.k).reverse from (revP_rps _ []).trans (by rw [List.append_nil])] at p
   exact p
  have s5 : (up zA 30).ex cxD (e3 5) (stE B (fk j row (.ref 31) (.ref 30)) (nowP N) C O D (e0 ++ [.list (rps (N row.1.k).reverse)])) = some (.next, stE B (fk j row (.ref 31) (.ref 32)) (nowP N) C O D (e0 ++ [.list (rps (N row.1.k).reverse), .list [pr row]]), true) :=
   if_yes e3_5 (tstE B j (.st, row) hj hb fun ι => cN _ _ _) (p_5g B j (nowP N) C O D _ row)
  have t6 : (up zA 29).tr cxD (.BoolOp .And [tE ⟨896, 11, 896, 16⟩ ⟨896, 17, 896, 18⟩ ⟨896, 11, 896, 19⟩ ⟨896, 22, 896, 23⟩ ⟨896, 11, 896, 23⟩ ⟨896, 27, 896, 28⟩ ⟨896, 11, 896, 28⟩ 0 0 .Eq 0, inE] ⟨896, 11, 896, 45⟩) (stE B (fk j row (.ref 31) (.ref 32)) (nowP N) C O D (e0 ++ [.list (rps (N row.1.k).reverse), .list [pr row]])) = some ((remR row (N row.1.k).reverse).isSome, stE B (fk j row (.ref 31) (.ref 32)) (nowP N) C O D (e0 ++ [.list (rps (N row.1.k).reverse), .list [pr row]]), true) := by
   rw [upA_tr]
   refine bn2_of (tstE B j (.st, row) (n := 24) (b := true) hj hb fun ι => cE _ _ _) ?_
   have p := p_6in B j (nowP N) C O D (rps (N row.1.k).reverse) row
   rw [show shp (pr row) = true from shp_rp row, shp_rps, show memP (pr row) (rps (N row.1.k).reverse) = (remR row (N row.1.k).reverse).isSome from memP_rps row _] at p
   refine bn2_of p ?_
   cases (remR row (N row.1.k).reverse).isSome <;> exact ok_eq
  cases hg : remR row (N row.1.k).reverse with
  | none =>
   rw [hg] at t6
   refine ⟨rps (N row.1.k).reverse, [pr row], [pr row], ?_, ?_, fun {l σ f} h => ?_⟩
   · unfold wy qT; dsimp only; rw [hg]; rfl
   · unfold wy qT; dsimp only; rw [hg]; rfl
   have s7 := p_7so B j C O D (rps (N row.1.k)) (rps (N row.1.k).reverse) (.list (rps (oth1 row.1.k N))) (.list (rps (oth2 row.1.k N))) row
   rw [<- now_NK, <- rp_pr, NK_now] at s7
   have ew : wy (.st, row) N = .so := by unfold wy; dsimp only; rw [hg]
   rw [ew] at h
   exact exs_cons s4 (exs_cons s5 (exs_cons (if_no e3_6 t6) (exs_cons (if_yes e3_7 (tstE B j (.st, row) hj hb fun ι => cE _ _ _) s7) h)))
  | some g =>
   rw [hg] at t6
   refine ⟨rps g, [pr row], [pr row], ?_, ?_, fun {l σ f} h => ?_⟩
   · unfold wy qT; dsimp only; rw [hg]; rfl
   · unfold wy qT; dsimp only; rw [hg]; rfl
   have s7 := p_7si B j C O D (rps (N row.1.k)) (rps g) (.list (rps (oth1 row.1.k N))) (.list (rps (oth2 row.1.k N))) row
   rw [<- now_NK, <- rp_pr, NK_now] at s7
   have ew : wy (.st, row) N = .si := by unfold wy; dsimp only; rw [hg]
   rw [ew] at h
   have r0 : (up zA 29).ex cxD (b6 0) (stE B (fk j row (.ref 31) (.ref 32)) (nowP N) C O D (e0 ++ [.list (rps (N row.1.k).reverse), .list [pr row]])) = some (.next, stE B (fk j row (.ref 31) (.ref 32)) (nowP N) C O D (e0 ++ [.list (rps g), .list [pr row]]), true) := by
    rw [upA_ex, b6_0]
    refine ex_expr rfl ?_ (rfl : notRef .none = true)
    rw [upA_ev]
    have hm : remP (pr row) (rps (N row.1.k).reverse) = some (rps g) := by
     have := remP_rps row (N row.1.k).reverse
     rw [hg] at this
     exact this
    have a := ap_remove (T := TT) (r := up zA 27) (r_n B j (nowP N) C O D (rps (N row.1.k).reverse) row) hm hR (shp_rp row) (shp_rps _)
    rw [r_s] at a
    exact ev_meth rfl rfl rfl rfl rfl (r_g B j (nowP N) C O D (rps (N row.1.k).reverse) row) (r_f B j (nowP N) C O D (rps (N row.1.k).reverse) row) (r_p B j (nowP N) C O D (rps (N row.1.k).reverse) row) rfl ok_eq a
   exact exs_cons s4 (exs_cons s5 (exs_cons (if_yes e3_6 t6 (exs_cons r0 (exs_cons (p_6came B j (nowP N) C O D (rps g) row) exs_nil))) (exs_cons (if_yes e3_7 (tstE B j (.st, row) hj hb fun ι => cE _ _ _) s7) h)))
 | ad =>
  refine ⟨[pr row], [pr row], rps (N row.1.k ++ [row]), rfl, rfl, fun {l σ f} h => ?_⟩
  have s4 : (up zA 30).ex cxD (e3 4) (stE B (fk j row (.ref 29) (.ref 30)) (nowP N) C O D e0) = some (.next, stE B (fk j row (.ref 29) (.ref 30)) (nowP N) C O D e0, true) := if_no e3_4 (tstE B j (.ad, row) hj hb fun ι => cN _ _ _)
  have s5 := if_yes (n := 29) e3_5 (tstE B j (.ad, row) hj hb fun ι => cN _ _ _) (p_5a B j (nowP N) C O D row)
  have t6 : (up zA 29).tr cxD (.BoolOp .And [tE ⟨896, 11, 896, 16⟩ ⟨896, 17, 896, 18⟩ ⟨896, 11, 896, 19⟩ ⟨896, 22, 896, 23⟩ ⟨896, 11, 896, 23⟩ ⟨896, 27, 896, 28⟩ ⟨896, 11, 896, 28⟩ 0 0 .Eq 0, inE] ⟨896, 11, 896, 45⟩) (stE B (fk j row (.ref 29) (.ref 31)) (nowP N) C O D (e0 ++ [.list [pr row]])) = some (false, stE B (fk j row (.ref 29) (.ref 31)) (nowP N) C O D (e0 ++ [.list [pr row]]), true) := by
   rw [upA_tr]
   exact bn2_of (tstE B j (.ad, row) (n := 24) (b := false) hj hb fun ι => cE _ _ _) ok_eq
  have s7 := p_7a B j C O D (rps (N row.1.k)) (.list (rps (oth1 row.1.k N))) (.list (rps (oth2 row.1.k N))) row
  rw [hL, <- now_NK, show rps (N row.1.k) ++ [pr row] = rps (N row.1.k ++ [row]) from (rps_app (N row.1.k) [row]).symm, NK_now] at s7
  exact exs_cons s4 (exs_cons s5 (exs_cons (if_no e3_6 t6) (exs_cons (if_else e3_7 (tstE B j (.ad, row) hj hb fun ι => cE _ _ _) (exs_one (if_yes el7_eq (tstE B j (.ad, row) hj hb fun ι => cE _ _ _) s7))) h)))
 | de =>
  refine ⟨rps (N row.1.k).reverse, [], [], rfl, rfl, fun {l σ f} h => ?_⟩
  have s4 : (up zA 30).ex cxD (e3 4) (stE B (fk j row (.ref 29) (.ref 30)) (nowP N) C O D e0) = some (.next, stE B (fk j row (.ref 31) (.ref 30)) (nowP N) C O D (e0 ++ [.list (rps (N row.1.k).reverse)]), true) := by
   refine if_yes e3_4 (tstE B j (.de, row) hj hb fun ι => cN _ _ _) ?_
   have p := p_4 B j C O D (rps (N row.1.k)) (.list (rps (oth1 row.1.k N))) (.list (rps (oth2 row.1.k N))) row
   rw [hL, <- now_NK, show revP (rps (N row.1.k)) [] = rps (N row.1.k).reverse from (revP_rps _ []).trans (by rw [List.append_nil])] at p
   exact p
  have s5 : (up zA 30).ex cxD (e3 5) (stE B (fk j row (.ref 31) (.ref 30)) (nowP N) C O D (e0 ++ [.list (rps (N row.1.k).reverse)])) = some (.next, stE B (fk j row (.ref 31) (.ref 30)) (nowP N) C O D (e0 ++ [.list (rps (N row.1.k).reverse)]), true) := if_no e3_5 (tstE B j (.de, row) hj hb fun ι => cN _ _ _)
  have t6 : (up zA 29).tr cxD (.BoolOp .And [tE ⟨896, 11, 896, 16⟩ ⟨896, 17, 896, 18⟩ ⟨896, 11, 896, 19⟩ ⟨896, 22, 896, 23⟩ ⟨896, 11, 896, 23⟩ ⟨896, 27, 896, 28⟩ ⟨896, 11, 896, 28⟩ 0 0 .Eq 0, inE] ⟨896, 11, 896, 45⟩) (stE B (fk j row (.ref 31) (.ref 30)) (nowP N) C O D (e0 ++ [.list (rps (N row.1.k).reverse)])) = some (false, stE B (fk j row (.ref 31) (.ref 30)) (nowP N) C O D (e0 ++ [.list (rps (N row.1.k).reverse)]), true) := by
   rw [upA_tr]
   exact bn2_of (tstE B j (.de, row) (n := 24) (b := false) hj hb fun ι => cE _ _ _) ok_eq
  have s7 := p_7d B j C O D (rps (N row.1.k)) (rps (N row.1.k).reverse) (.list (rps (oth1 row.1.k N))) (.list (rps (oth2 row.1.k N))) row
  rw [<- now_NK, show NK row.1.k (.list []) (.list (rps (oth1 row.1.k N))) (.list (rps (oth2 row.1.k N))) = nowP (upd row.1.k [] N) from NK_now _ _ []] at s7
  exact exs_cons s4 (exs_cons s5 (exs_cons (if_no e3_6 t6) (exs_cons (if_else e3_7 (tstE B j (.de, row) hj hb fun ι => cE _ _ _) (exs_one (if_else el7_eq (tstE B j (.de, row) hj hb fun ι => cE _ _ _) s7))) h)))
end
noncomputable abbrev frU : AO := frD .unk .unk .unk .unk .unk
section
variable (B : Bk) (j : Nat) (d : Dr) (N : Kd -> List Row) (C O : Kd -> Int) (D : List PyData)
theorem tstW {n q : Nat} {op : CmpOp} {b : Bool} {q1 q2 q3 q4 q5 q6 q7 : Pos} {u1 u2 : Addr} {N C O D : List PyData} {e : St} (w : Wy) (hj : nth B.dr j = some (.int (.ofNat (code d)))) (hb : B.dr.length <= 900) (hc : ∀ σ, cmpA op (.int (.ofNat d.1.j)) (.int (.ofNat q)) σ = some (b, σ, true)) : (up zA (n + 4)).tr cxD (tE q1 q2 q3 q4 q5 q6 q7 u1 u2 op q) (stE B (wf w j d.2) N C O D e) = some (b, stE B (wf w j d.2) N C O D e, true) := by
 cases w <;> exact tstE B j d hj hb hc
set_option tactic.hygienic true in
theorem qT_len (hN : ∀ k, (N k).length <= 900) : (qT d N).1.length <= 900 /\ (qT d N).2.length <= 1 := by
 have := hN d.2.1.k
 unfold qT
 split
 · split
   · rename_i g hg
     have := remR_len hg
     rw [List.length_reverse] at this
     exact ⟨by dsimp only; exact Nat.le_trans ‹_› ‹_›, Nat.zero_le _⟩
   · exact ⟨by dsimp only; rw [List.length_reverse]; assumption, Nat.le_refl _⟩
 · exact ⟨Nat.zero_le _, Nat.le_refl _⟩
 · exact ⟨by dsimp only; rw [List.length_reverse]; assumption, Nat.zero_le _⟩
theorem q_9 (hj : nth B.dr j = some (.int (.ofNat (code d)))) (F : Fits N D B) {G H E2 : List PyData} (N' D' : List PyData) (hG : wG (wy d N) G = rps (qT d N).1) (hH : wH (wy d N) H = rps (qT d N).2) : ∃ σ, (up zA 30).ex cxD (e3 9) (stE B (wf (wy d N) j d.2) N' (intPe C) (intPe O) D' (we' (wy d N) G H E2)) = some (.next, σ, true) /\ blur cxD (loopN (forT loop3) (forB loop3)) (cutS 27 27 σ) = stE B frU N' (intPe (qC d j N C)) (intPe (qO d j N O)) D' [] := by
 have hl := qT_len d N F.n
 cases h1 : (qT d N).1 with
 | cons g K =>
  rw [h1] at hG hl
  have p := p_9 B j N' (intPe O) D' G H E2 d.2 (wy d N) (C d.2.1.k) (oth1 d.2.1.k C) (oth2 d.2.1.k C) (rp g) (rps K) (rps (qT d N).2) hG hH
  have ht : told (qT d N) = true := by unfold told; rw [h1]; rfl
  have f1 : fit (rp g :: rps K) = true := fit_of (by have : (rps (g :: K)).length <= 900 := (by rw [rps_len]; exact hl.1); exact Nat.le_trans this (by decide))
  have f2 : fit (rps (qT d N).2) = true := fit_of (by rw [rps_len]; lia)
  have f3 : shp (.list (rp g :: (rps K ++ rps (qT d N).2))) = true := by
   rw [<- rps_app]
   exact shp_rps (g :: (K ++ (qT d N).2))
  rw [f1, f2, f3, <- int_NK d.2.1.k C, NK_int] at p
  obtain ⟨f, σ, e, p⟩ := bn2_some p
  obtain ⟨rfl, p2⟩ := ok_some p
  refine ⟨σ, e, ?_⟩
  rw [p2]
  unfold qC qO
  rw [ht]
 | nil =>
  cases h2 : (qT d N).2 with
  | cons g K =>
   rw [h1] at hG
   rw [h2] at hH hl
   have p := p_9h B j N' (intPe O) D' G H E2 d.2 (wy d N) (C d.2.1.k) (oth1 d.2.1.k C) (oth2 d.2.1.k C) (rp g) (rps K) hG hH
   have ht : told (qT d N) = true := by unfold told; rw [h1, h2]; rfl
   have f1 : fit (rp g :: rps K) = true := fit_of (by have : (rps (g :: K)).length <= 1 := (by rw [rps_len]; exact hl.2); exact Nat.le_trans this (by decide))
   have f3 : shp (.list (rp g :: rps K)) = true := shp_rps (g :: K)
   rw [f1, f3, <- int_NK d.2.1.k C, NK_int] at p
   obtain ⟨f, σ, e, p⟩ := bn2_some p
   obtain ⟨rfl, p2⟩ := ok_some p
   refine ⟨σ, e, ?_⟩
   rw [p2]
   unfold qC qO
   rw [ht]
  | nil =>
   rw [h1] at hG
   rw [h2] at hH
   obtain ⟨e, p⟩ := p_9n B j N' (intPe C) (intPe O) D' G H E2 d.2 (wy d N) hG hH
   have ht : told (qT d N) = false := by unfold told; rw [h1, h2]; rfl
   cases ho : d.1 with
   | st =>
    have s := p_9s B j N' (intPe C) D' d.2 (wy d N) (O d.2.1.k) (oth1 d.2.1.k O) (oth2 d.2.1.k O) (we' (wy d N) G H E2 ++ e)
    rw [<- int_NK d.2.1.k O, NK_int] at s
    have x : (up zA 29).ex cxD el9 (stE B (wf (wy d N) j d.2) N' (intPe C) (intPe O) D' (we' (wy d N) G H E2 ++ e)) = some (.next, stE B (wf (wy d N) j d.2) N' (intPe C) (intPe (upd d.2.1.k (.ofNat j) O)) D' (we' (wy d N) G H E2 ++ e), true) :=
     if_yes el9_eq (tstW B j d (wy d N) hj F.b (fun σ => by rw [ho]; exact cE _ _ _)) s
    refine ⟨_, if_else e3_9 p (exs_one x), ?_⟩
    rw [p_cut]
    unfold qC qO
    rw [ht, ho]
   | ad =>
    have x : (up zA 29).ex cxD el9 (stE B (wf (wy d N) j d.2) N' (intPe C) (intPe O) D' (we' (wy d N) G H E2 ++ e)) = some (.next, stE B (wf (wy d N) j d.2) N' (intPe C) (intPe O) D' (we' (wy d N) G H E2 ++ e), true) :=
     if_no el9_eq (tstW B j d (wy d N) hj F.b (fun σ => by rw [ho]; exact cE _ _ _))
    refine ⟨_, if_else e3_9 p (exs_one x), ?_⟩
    rw [p_cut]
    unfold qC qO
    rw [ht, ho]
   | de =>
    have x : (up zA 29).ex cxD el9 (stE B (wf (wy d N) j d.2) N' (intPe C) (intPe O) D' (we' (wy d N) G H E2 ++ e)) = some (.next, stE B (wf (wy d N) j d.2) N' (intPe C) (intPe O) D' (we' (wy d N) G H E2 ++ e), true) :=
     if_no el9_eq (tstW B j d (wy d N) hj F.b (fun σ => by rw [ho]; exact cE _ _ _))
    refine ⟨_, if_else e3_9 p (exs_one x), ?_⟩
    rw [p_cut]
    unfold qC qO
    rw [ht, ho]
theorem put3 (N C O D : List PyData) : storeT cxD (forT loop3) (ofP (.int (.ofNat j))) (stE B frU N C O D []) = some (stE B (frD (.int (.ofNat j)) .unk .unk .unk .unk) N C O D []) := by kernel_rfl!
noncomputable def toldP (p : List Row × List Row) : PyData := .tuple [.list (rps p.1), .list (rps p.2)]
theorem turn3 (hj : nth B.dr j = some (.int (.ofNat (code d)))) (F : Fits N D B) : forA (up zA 30) cxD (forT loop3) (forB loop3) (loopN (forT loop3) (forB loop3)) 27 [.int (.ofNat j)] (stE B frU (nowP N) (intPe C) (intPe O) D []) = some ((), stE B frU (nowP (qN d N)) (intPe (qC d j N C)) (intPe (qO d j N O)) (D ++ [toldP (qT d N)]) [], true) := by
 obtain ⟨G, H, E2, hG, hH, k⟩ := q_47 B j d N (intPe C) (intPe O) D hj F
 obtain ⟨σ, h9, hc⟩ := q_9 B j d N C O D hj F (E2 := E2) (nowP (qN d N)) (D ++ [toldP (qT d N)]) hG hH
 have p8 := p_8 B j (nowP (qN d N)) (intPe C) (intPe O) D G H E2 d.2 (wy d N)
 rw [fit_of (show D.length <= 10000 by have := F.d; exact le_c ‹_› rfl), hG, hH] at p8
 have E := q_04 B j d (nowP N) (intPe C) (intPe O) D hj F.b (k (exs_cons p8 (exs_cons h9 exs_nil)))
 rw [<- body3] at E
 exact forA_one (put3 B j _ _ _ _) E hc
end
noncomputable def qNL : List Nat -> (Kd -> List Row) -> (Kd -> List Row)
 | [], N => N
 | r :: l, N => qNL l (qN (drOf r) N)
noncomputable def qTL : List Nat -> (Kd -> List Row) -> List (List Row × List Row)
 | [], _ => []
 | r :: l, N => qT (drOf r) N :: qTL l (qN (drOf r) N)
noncomputable def qCL : List Nat -> Nat -> (Kd -> List Row) -> (Kd -> Int) -> (Kd -> Int)
 | [], _, _, C => C
 | r :: l, j, N, C => qCL l (j + 1) (qN (drOf r) N) (qC (drOf r) j N C)
noncomputable def qOL : List Nat -> Nat -> (Kd -> List Row) -> (Kd -> Int) -> (Kd -> Int)
 | [], _, _, O => O
 | r :: l, j, N, O => qOL l (j + 1) (qN (drOf r) N) (qO (drOf r) j N O)
theorem qN_len (d : Dr) (N : Kd -> List Row) (b : Nat) (h : ∀ k, (N k).length <= b) (k : Kd) : (qN d N k).length <= b + 1 := by
 unfold qN upd
 split
 · split
   · show 1 <= b + 1; lia
   · rw [List.length_append]; have := h d.2.1.k; show (N d.2.1.k).length + 1 <= b + 1; exact Nat.succ_le_succ ‹_›
   · exact Nat.zero_le _
 · have := h k; exact Nat.le_succ_of_le ‹_›
theorem intsD_app : ∀ a b : List Nat, intsD (a ++ b) = intsD a ++ intsD b
 | [], b => rfl
 | x :: a, b => congrArg (PyData.int (Int.ofNat x) :: ·) (intsD_app a b)
theorem turns3 (B : Bk) (hb : B.dr.length <= 900) : ∀ (l p : List Nat) (N : Kd -> List Row) (C O : Kd -> Int) (D : List PyData) (b : Nat), B.dr = intsD (p ++ l) -> (∀ r, r ∈ l -> r < 54) -> (∀ k, (N k).length <= b) -> b + l.length <= 800 -> D.length + l.length <= 800 ->
 forA (up zA 30) cxD (forT loop3) (forB loop3) (loopN (forT loop3) (forB loop3)) 27 (rangeL (.ofNat p.length) (.ofNat 1) l.length) (stE B frU (nowP N) (intPe C) (intPe O) D []) = some ((), stE B frU (nowP (qNL l N)) (intPe (qCL l p.length N C)) (intPe (qOL l p.length N O)) (D ++ (qTL l N).map toldP) [], true)
 | [], p, N, C, O, D, b, _, _, _, _, _ => by
  rw [show D ++ (qTL [] N).map toldP = D from List.append_nil D]
  exact ok_eq
 | r :: l, p, N, C, O, D, b, hd, h54, hN, h1, h2 => by
  simp only [List.length_cons] at h1 h2
  have hr : r < 54 := h54 r (List.mem_cons_self ..)
  have hj : nth B.dr p.length = some (.int (.ofNat (code (drOf r)))) := by
   rw [code_drOf hr, hd, intsD_app, <- intsD_len p]
   exact nth_app (intsD p)
  have t := turn3 B p.length (drOf r) N C O D hj ⟨fun k => by have := hN k; lia, by exact le_d ‹_› rfl, hb⟩
  refine forA_cons t ?_
  have u := turns3 B hb l (p ++ [r]) (qN (drOf r) N) (qC (drOf r) p.length N C) (qO (drOf r) p.length N O) (D ++ [toldP (qT (drOf r) N)]) (b + 1) (by rw [hd, List.append_assoc]; rfl) (fun x m => h54 x (List.mem_cons_of_mem _ m)) (qN_len (drOf r) N b hN) (le_s ‹_›) (by rw [List.length_append, List.length_cons, List.length_nil]; exact le_s ‹_›)
  rw [List.length_append, List.append_assoc] at u
  exact u
noncomputable def N0 (k : Kd) : List Row := rowsK k T0
noncomputable def C0 (_ : Kd) : Int := 99
noncomputable def O0 (_ : Kd) : Int := -1
noncomputable abbrev fr5 : AO := .ns [(S "draws", .ref 7), (S "now", .ref 21), (S "changed", .ref 24), (S "stored", .ref 25), (S "told", .ref 26)]
theorem l3_eq : loop3 = .For (forT loop3) (.Call (.Name (S "range") ⟨887, 13, 887, 18⟩) [.Call (.Name (S "len") ⟨887, 19, 887, 22⟩) [.Name (S "draws") ⟨887, 23, 887, 28⟩] [] ⟨887, 19, 887, 29⟩] [] ⟨887, 13, 887, 30⟩) (forB loop3) [] (posS loop3) := by kernel_rfl!
section
variable (B : Bk)
theorem pre942 : exsA (up zA 31) cxD [s942 0, s942 1, s942 2, s942 3] (stB B ++ [.ns [(S "draws", .ref 7)], .cell (.ref 2)]) = some (.next, stE B fr5 (nowP N0) (intPe C0) (intPe O0) [] [], true) := by kernel_rfl!
theorem k_1 (N C O D : List PyData) : nameA TT cxD s_range (stE B fr5 N C O D []) = some (.raw (.type "range"), stE B fr5 N C O D [], true) := by kernel_rfl!
theorem k_2 (N C O D : List PyData) : evsA (up zA 30) cxD [.Call (.Name (S "len") ⟨887, 19, 887, 22⟩) [.Name (S "draws") ⟨887, 23, 887, 28⟩] [] ⟨887, 19, 887, 29⟩] (stE B fr5 N C O D []) = some ([.int (.ofNat (len B.dr))], stE B fr5 N C O D [], ((fit B.dr && true) && true)) := by kernel_rfl!
theorem k_3 (N C O D : List PyData) : blur cxD (loopN (forT loop3) (forB loop3)) (stE B fr5 N C O D []) = stE B frU N C O D [] := by kernel_rfl!
theorem k_4 (N C O D : List PyData) : len (stE B fr5 N C O D []) = 27 := by kernel_rfl!
theorem loop3_ex (l : List Nat) (hd : B.dr = intsD l) (h : ∀ r, r ∈ l -> r < 54) (hl : l.length <= 700) : (up zA 31).ex cxD loop3 (stE B fr5 (nowP N0) (intPe C0) (intPe O0) [] []) = some (.next, stE B frU (nowP (qNL l N0)) (intPe (qCL l 0 N0 C0)) (intPe (qOL l 0 N0 O0)) ((qTL l N0).map toldP) [], true) := by
 have hlen : B.dr.length = l.length := by rw [hd, intsD_len]
 have v := k_2 B (nowP N0) (intPe C0) (intPe O0) []
 rw [fit_of (le_q ‹_› ‹_› rfl), len_eq, hlen] at v
 rw [upA_ex, l3_eq]
 refine forSt_range (l := (rangeL 0 1 l.length, Nat.ble l.length 10000)) rfl (by kernel_rfl!) rfl (k_1 B _ _ _ _) strN_range v (by kernel_rfl!) (Nat.ble_eq_true_of_le (le_c ‹_› rfl)) (k_3 B _ _ _ _) ?_
 rw [k_4]
 have hN : ∀ k, (N0 k).length <= 4 := fun k => by cases k <;> decide
 exact turns3 B (le_q ‹_› ‹_› rfl) l [] N0 C0 O0 [] 4 hd h hN (by lia) (by rw [List.length_nil]; exact le_0 ‹_› rfl)
end
noncomputable def rA : Row := (.A, .i)
noncomputable def ra : Row := (.a, .e)
noncomputable def rb : Row := (.b, .x)
noncomputable def rc : Row := (.c, .e)
noncomputable def dueL (ca cc sc : Int) : List Row := match ilt ca 99, ilt cc 99 with
 | false, false => (match ilt sc 0 with | true => [rA, rc, ra, rb] | false => [rA, ra, rc, rb])
 | false, true => [rA, ra, rc, rb]
 | true, false => [rc, rA, ra, rb]
 | true, true => (match ilt ca cc with | true => [rc, rA, ra, rb] | false => [rA, ra, rc, rb])
noncomputable def tailV (B : Bk) (N D : List PyData) (ca cc sa sb sc : Int) : Rs (PyData × PyData) := bn2 (exsA (up zA 31) cxD [s942 5, s942 6, s942 7] (stE B frU N [.int ca, .int 0, .int cc] [.int sa, .int sb, .int sc] D [])) fun f σ => bnd (flV f) fun v => gd (rfIs 31 v) (bnd (readV (.ref 18) (setNth σ 19 .junk)) fun x => bnd (readV (.ref 31) (setNth σ 19 .junk)) fun y => ok (x, y) [])
noncomputable def outV (B : Bk) (D : List PyData) (T : List Row) : Rs (PyData × PyData) := some ((.tuple [.list B.td, .list B.t], .tuple [.list D, .list (rps T)]), [], true)
section
variable (B : Bk) (N D : List PyData) (sb : Int)
theorem tl_00 (s : Nat) (hs : s <= 6) : tailV B N D 99 99 (-1) sb (.ofNat s) = outV B D (dueL 99 99 (.ofNat s)) := by
 obtain rfl | rfl | rfl | rfl | rfl | rfl | rfl : s = 0 \/ s = 1 \/ s = 2 \/ s = 3 \/ s = 4 \/ s = 5 \/ s = 6 := by lia
 all_goals kernel_rfl!
theorem tl_01 : tailV B N D 99 99 (-1) sb (-1) = outV B D (dueL 99 99 (-1)) := by kernel_rfl!
theorem tl_c (sc : Int) (c : Nat) (h : 1 <= c) (hc : c <= 6) : tailV B N D 99 (.ofNat c) (-1) sb sc = outV B D (dueL 99 (.ofNat c) sc) := by
 obtain rfl | rfl | rfl | rfl | rfl | rfl : c = 1 \/ c = 2 \/ c = 3 \/ c = 4 \/ c = 5 \/ c = 6 := by lia
 all_goals kernel_rfl!
theorem tl_a (sa sc : Int) (c : Nat) (h : 1 <= c) (hc : c <= 6) : tailV B N D (.ofNat c) 99 sa sb sc = outV B D (dueL (.ofNat c) 99 sc) := by
 obtain rfl | rfl | rfl | rfl | rfl | rfl : c = 1 \/ c = 2 \/ c = 3 \/ c = 4 \/ c = 5 \/ c = 6 := by lia
 all_goals kernel_rfl!
theorem tl_ac (sa sc : Int) (a c : Nat) (h : 1 <= a) (ha : a <= 6) (h1 : 1 <= c) (hc : c <= 6) (hn : a ≠ c) : tailV B N D (.ofNat a) (.ofNat c) sa sb sc = outV B D (dueL (.ofNat a) (.ofNat c) sc) := by
 obtain rfl | rfl | rfl | rfl | rfl | rfl : a = 1 \/ a = 2 \/ a = 3 \/ a = 4 \/ a = 5 \/ a = 6 := by lia
 all_goals
  obtain rfl | rfl | rfl | rfl | rfl | rfl : c = 1 \/ c = 2 \/ c = 3 \/ c = 4 \/ c = 5 \/ c = 6 := by lia
  all_goals first | exact absurd rfl hn | kernel_rfl!
end
theorem callA_cel {T : Tp} {r : Rec} {f : Addr} {vs : List AV} {σ σ₁ : St} {fs : List Fn} {fn : Fn} {l : List (Str × AV)} {v w : AV} {x : Str} (h0 : Nat.beq f 908 = false) (h1 : nlook f T.fns = some fs) (h2 : pickFn (len vs) [] fs = some fn) (h3 : bindsA vs [] fn.binds = some l) (h4 : fn.kwd = none) (h5 : fn.cel = some x) (h6 : look x l = some w) (hb : exsA r ⟨len σ, fn.fd.scope, [(x, Nat.succ (len σ))]⟩ fn.body (σ ++ [.ns (delN x l), .cell w]) = some (.ret v, σ₁, true)) : callA T r f vs [] σ = some (v, setNth σ₁ (len σ) .junk, true) := by
 have e : bodyA r fn l σ = bnd (look x l) fun v => exsA r ⟨len σ, fn.fd.scope, [(x, Nat.succ (len σ))]⟩ fn.body (σ ++ [.ns (delN x l), .cell v]) := by unfold bodyA; rw [h4, h5]
 have e2 : frAt fn (len σ) = len σ := by unfold frAt; rw [h4]
 refine pk_ff h0 (bnd_of h1 (bnd_of h2 (bnd_of h3 (bn2_of (e.trans (bnd_of h6 hb)) (bnd_of (a := v) rfl ?_)))))
 rw [e2]
 exact ok_eq
theorem fl_ref {f : Fl} {v : AV} {i : Nat} (h : flV f = some v) (h2 : rfIs i v = true) : f = .ret (.ref i) := by
 obtain rfl := rfIs_inv h2
 cases f with
 | ret w => rw [Option.some.inj h]
 | next => exact nomatch h
 | _ => exact none_el h
theorem upA_942 {n : Nat} {σ : St} : (up zA (n + 1)).call 942 [.ref 2, .ref 7] [] σ = callA TT (up zA n) 942 [.ref 2, .ref 7] [] σ := by kernel_rfl
theorem fn942_ok : Nat.beq 942 908 = false /\ nlook 942 TT.fns = some [fn942] /\ pickFn (len [AV.ref 2, AV.ref 7]) [] [fn942] = some fn942 /\ bindsA [AV.ref 2, AV.ref 7] [] fn942.binds = some [(S "rows", .ref 2), (S "draws", .ref 7)] /\ fn942.kwd = none /\ fn942.cel = some (S "rows") /\ look (S "rows") [(S "rows", AV.ref 2), (S "draws", AV.ref 7)] = some (.ref 2) /\ delN (S "rows") [(S "rows", AV.ref 2), (S "draws", AV.ref 7)] = [(S "draws", AV.ref 7)] := ⟨by kernel_rfl!, by kernel_rfl!, by kernel_rfl!, by kernel_rfl!, by kernel_rfl!, by kernel_rfl!, by kernel_rfl!, by kernel_rfl!⟩
theorem body942 : fn942.body = [s942 0, s942 1, s942 2, s942 3] ++ [loop3, s942 5, s942 6, s942 7] := by kernel_rfl!
theorem len_stB (B : Bk) : len (stB B) = 19 := by kernel_rfl!
theorem cxD_eq (B : Bk) : (⟨len (stB B), fn942.fd.scope, [(S "rows", Nat.succ (len (stB B)))]⟩ : Cx) = cxD := by rw [len_stB]; rfl
theorem call942 (B : Bk) (l : List Nat) (hd : B.dr = intsD l) (h : ∀ r, r ∈ l -> r < 54) (hl : l.length <= 700) {ca cc sa sb sc : Int} {X : List Row} (hC : intPe (qCL l 0 N0 C0) = [.int ca, .int 0, .int cc]) (hO : intPe (qOL l 0 N0 O0) = [.int sa, .int sb, .int sc]) (ht : tailV B (nowP (qNL l N0)) ((qTL l N0).map toldP) ca cc sa sb sc = outV B ((qTL l N0).map toldP) X) : ∃ σ, (up zA 32).call 942 [.ref 2, .ref 7] [] (stB B) = some (.ref 31, σ, true) /\ readV (.ref 18) σ = some (.tuple [.list B.td, .list B.t]) /\ readV (.ref 31) σ = some (.tuple [.list ((qTL l N0).map toldP), .list (rps X)]) := by
 have a := pre942 B
 have b := loop3_ex B l hd h hl
 rw [hC, hO] at b
 refine bn2_el ht fun f σ e ht => bnd_el ht fun v h1 ht => gd_el ht fun h2 ht => bnd_el ht fun x hx ht => bnd_el ht fun y hy ht => ?_
 have ht := (ok_some ht).1
 rw [fl_ref h1 h2] at e
 refine ⟨setNth σ 19 .junk, ?_, hx.trans (congrArg (fun p => some p.1) ht), hy.trans (congrArg (fun p => some p.2) ht)⟩
 · rw [upA_942]
   obtain ⟨a1, a2, a3, a4, a5, a6, a7, a8⟩ := fn942_ok
   have E : exsA (up zA 31) ⟨len (stB B), fn942.fd.scope, [(S "rows", Nat.succ (len (stB B)))]⟩ fn942.body (stB B ++ [.ns (delN (S "rows") [(S "rows", AV.ref 2), (S "draws", AV.ref 7)]), .cell (.ref 2)]) = some (.ret (.ref 31), σ, true) := by
    rw [body942, cxD_eq, a8]
    exact exs_append a (exs_cons b e)
   have := callA_cel (T := TT) (r := up zA 31) (f := 942) (vs := [.ref 2, .ref 7]) a1 a2 a3 a4 a5 a6 a7 E
   rw [len_stB] at this
   exact this
theorem req_refl (r : Row) : req r r = true := by
 obtain ⟨n, v⟩ := r
 cases n <;> cases v <;> rfl
theorem pdEqs_cons {a b : PyData} {l r : List PyData} (h : pdEq a b = true) (h2 : pdEqs l r = true) : pdEqs (a :: l) (b :: r) = true := by
 show (match pdEq a b with | true => pdEqs l r | false => false) = true
 rw [h]; exact h2
theorem pdEqs_rps : ∀ l : List Row, pdEqs (rps l) (rps l) = true
 | [] => rfl
 | r :: l => pdEqs_cons ((pdEq_rp r r).trans (req_refl r)) (pdEqs_rps l)
theorem pdEqs_told : ∀ l : List (List Row × List Row), pdEqs (l.map toldP) (l.map toldP) = true
 | [] => rfl
 | p :: l => pdEqs_cons (show pdEqs [.list (rps p.1), .list (rps p.2)] [.list (rps p.1), .list (rps p.2)] = true from pdEqs_cons (pdEqs_rps p.1) (pdEqs_cons (pdEqs_rps p.2) rfl)) (pdEqs_told l)
theorem shaped_told : ∀ l : List (List Row × List Row), PyData.canLayAll0 (l.map toldP) = true /\ PyData.depthAll (l.map toldP) <= 5
 | [] => ⟨rfl, Nat.zero_le _⟩
 | p :: l => by
  obtain ⟨a, b⟩ := shaped_told l
  obtain ⟨a1, b1⟩ := shaped_all p.1
  obtain ⟨a2, b2⟩ := shaped_all p.2
  refine ⟨?_, ?_⟩
  · show ((PyData.canLayAll0 (rps p.1) && (PyData.canLayAll0 (rps p.2) && true)) && PyData.canLayAll0 (l.map toldP)) = true
    rw [a, a1, a2]; rfl
  · show max (max (PyData.depthAll (rps p.1) + 1) (max (PyData.depthAll (rps p.2) + 1) 0) + 1) (PyData.depthAll (l.map toldP)) <= 5
    lia
theorem shp_out (l : List (List Row × List Row)) (X : List Row) : shp (.tuple [.list (l.map toldP), .list (rps X)]) = true := by
 obtain ⟨a, b⟩ := shaped_told l
 obtain ⟨a1, b1⟩ := shaped_all X
 show ((PyData.canLayAll0 (l.map toldP) && (PyData.canLayAll0 (rps X) && true)) && decide (max (PyData.depthAll (l.map toldP) + 1) (max (PyData.depthAll (rps X) + 1) 0) + 1 <= 64)) = true
 rw [a, a1, decide_eq_true (by lia)]; rfl
theorem toldD_map : ∀ l, toldD l = l.map toldP
 | [] => rfl
 | p :: l => congrArg (toldP p :: ·) (toldD_map l)
noncomputable def s947 (i : Nat) : Stmt := (nth fn947.body i).getD noStmt
noncomputable def cxL : Cx := ⟨1, fn947.fd.scope, []⟩
noncomputable def intsI : List Int -> List PyData
 | [] => []
 | x :: l => .int x :: intsI l
noncomputable def drawsOf : List Int -> List Nat
 | [] => []
 | x :: l => (x.fmod 54).toNat :: drawsOf l
noncomputable abbrev eltL : Expr := .BinOp (.Name (S "x") ⟨920, 20, 920, 21⟩) .Mod (.Constant (.int 54) 0 ⟨920, 24, 920, 26⟩) ⟨920, 20, 920, 26⟩
noncomputable abbrev itX : Expr := .Subscript (.Name (S "script") ⟨920, 36, 920, 42⟩) (.Slice none (some (.Constant (.int 6) 0 ⟨920, 44, 920, 45⟩)) none ⟨920, 43, 920, 45⟩) ⟨920, 36, 920, 46⟩
noncomputable abbrev scL : Scope := ⟨.function, [(S ".0", .local), (S "x", .local)], false, false, []⟩
theorem s947_1 : s947 1 = .Assign [.Name (S "draws") ⟨920, 4, 920, 9⟩] (.BinOp (.List [.Constant (.int 11) 0 ⟨920, 13, 920, 15⟩] ⟨920, 12, 920, 16⟩) .Add (.ListComp eltL [⟨.Name (S "x") ⟨920, 31, 920, 32⟩, itX, [], 0⟩] scL ⟨920, 19, 920, 47⟩) ⟨920, 12, 920, 47⟩) ⟨920, 4, 920, 47⟩ := by kernel_rfl!
noncomputable abbrev cx37 : Expr := .Call (.Name (S "_law_there_and_back") ⟨921, 11, 921, 30⟩) [.Name (S "rows") ⟨921, 31, 921, 35⟩, .Name (S "draws") ⟨921, 37, 921, 42⟩] [] ⟨921, 11, 921, 43⟩
noncomputable abbrev cx42 : Expr := .Call (.Name (S "_law_due") ⟨921, 47, 921, 55⟩) [.Name (S "rows") ⟨921, 56, 921, 60⟩, .Name (S "draws") ⟨921, 62, 921, 67⟩] [] ⟨921, 47, 921, 68⟩
theorem s947_2 : s947 2 = .Return (some (.Compare cx37 [.Eq] [cx42] ⟨921, 11, 921, 68⟩)) ⟨921, 4, 921, 68⟩ := by kernel_rfl!
noncomputable abbrev stU (s0 : List PyData) : St := [.junk, .ns [(S "script", .dat (.list s0)), (S "rows", .ref 2)], .list rows0]
theorem v_0 (s0 : List PyData) : (up zA 35).ex cxL (s947 0) [.junk, .ns [(S "script", .dat (.list s0))]] = some (.next, stU s0, true) := by kernel_rfl!
theorem v_1 (s0 : List PyData) : (up zA 33).ev cxL (.List [.Constant (.int 11) 0 ⟨920, 13, 920, 15⟩] ⟨920, 12, 920, 16⟩) (stU s0) = some (.ref 3, stU s0 ++ [.list [.int 11]], true) := by kernel_rfl!
noncomputable abbrev st11 (s0 : List PyData) : St := stU s0 ++ [.list [.int 11]]
theorem v_2 (s0 : List PyData) : (up zA 32).ev cxL itX (st11 s0) = some (.ref 4, st11 s0 ++ [.list (takeP 6 s0)], (fit s0 && true)) := by kernel_rfl!
theorem v_3 (s0 s4 : List PyData) : iterA (.ref 4) (st11 s0 ++ [.list s4]) = some (s4, some 4) := by kernel_rfl!
theorem v_4 : closA cxL scL.names [] = some [] /\ (locOk scL.names scL.names && isFnK scL.kind) = true := ⟨by kernel_rfl!, by kernel_rfl!⟩
noncomputable def cxC : Cx := ⟨6, { scL with names := relN cxL scL.names }, []⟩
noncomputable def stC (s0 acc : List PyData) : St := st11 s0 ++ [.junk, .list acc, .ns [(S "x", .unk)]]
theorem v_5 (s0 s4 : List PyData) : blurC cxC (S "x") (lockA (some 4) (st11 s0 ++ [.list s4]) ++ [.list [], .ns []]) = stC s0 [] := by kernel_rfl!
theorem v_turn (s0 acc : List PyData) (x : Int) : compL (up zA 32) cxC (S "x") [] eltL 5 7 [.int x] (stC s0 acc) = some ((), stC s0 (acc ++ [.int (Int.fmod x 54)]), (fit acc && true)) := by kernel_rfl!
theorem fmod54 (x : Int) : Int.fmod x 54 = .ofNat (x.fmod 54).toNat /\ (x.fmod 54).toNat < 54 := by
 have h1 : 0 <= x.fmod 54 := Int.fmod_nonneg_of_pos x (by decide)
 have h2 : x.fmod 54 < 54 := Int.fmod_lt_of_pos x (by decide)
 refine ⟨?_, ?_⟩
 · exact (Int.toNat_of_nonneg h1).symm
 · lia
theorem v_turns (s0 : List PyData) : ∀ (l : List Int) (acc : List PyData), acc.length + l.length <= 9000 -> compL (up zA 32) cxC (S "x") [] eltL 5 7 (intsI l) (stC s0 acc) = some ((), stC s0 (acc ++ intsD (drawsOf l)), true)
 | [], acc, _ => by rw [show acc ++ intsD (drawsOf []) = acc from List.append_nil acc]; exact ok_eq
 | x :: l, acc, h => by
  simp only [List.length_cons] at h
  have t := v_turn s0 acc x
  rw [fit_of (le_d ‹_› rfl), (fmod54 x).1] at t
  refine compL_cons t ?_
  have u := v_turns s0 l (acc ++ [.int (.ofNat (x.fmod 54).toNat)]) (by rw [List.length_append, List.length_cons, List.length_nil]; exact le_s ‹_›)
  rw [List.append_assoc] at u
  exact u
theorem takeP_ints : ∀ (n : Nat) (l : List Int), takeP n (intsI l) = intsI (l.take n)
 | 0, l => by rw [List.take_zero]; rfl
 | n + 1, [] => rfl
 | n + 1, x :: l => congrArg (PyData.int x :: ·) (takeP_ints n l)
theorem intsI_len : ∀ l, (intsI l).length = l.length
 | [] => rfl
 | x :: l => congrArg (· + 1) (intsI_len l)
theorem drawsOf_len : ∀ l, (drawsOf l).length = l.length
 | [] => rfl
 | x :: l => congrArg (· + 1) (drawsOf_len l)
theorem drawsOf_lt : ∀ (l : List Int) (r : Nat), r ∈ drawsOf l -> r < 54
 | [], _, h => nomatch h
 | x :: l, r, h => by
  rcases List.mem_cons.1 h with rfl | h
  · exact (fmod54 x).2
  · exact drawsOf_lt l r h
theorem v_6 (s0 s4 s5 : List PyData) : nth (stC s0 s5) 6 = some (.ns [(S "x", .unk)]) := by kernel_rfl!
theorem v_7 (s0 s4 s5 : List PyData) : unlockA (some 4) s4 (setNth (stC s0 s5) 6 .junk) = st11 s0 ++ [.list s4, .list s5, .junk] := by kernel_rfl!
theorem v_8 (s0 s4 s5 : List PyData) : binA .Add (.ref 3) (.ref 5) (st11 s0 ++ [.list s4, .list s5, .junk]) = some (.ref 7, st11 s0 ++ [.list s4, .list s5, .junk, .list (.int 11 :: s5)], (fit s5 && true)) := by kernel_rfl!
theorem v_9 (s0 s4 s5 dr : List PyData) : storeL cxL (S "draws") (.ref 7) (st11 s0 ++ [.list s4, .list s5, .junk, .list dr]) = some (st0 s0 s4 s5 dr) := by kernel_rfl!
theorem len11 (s0 s4 : List PyData) : len (st11 s0 ++ [.list s4]) = 5 := by kernel_rfl!
section
variable {T : Tp} {r : Rec} {c : Cx} {σ σ₁ σ2 σ3 : St}
theorem ev_binL {l q : Expr} {p : Pos} {a b v : AV} (g : quotE l q = none) (h1 : r.ev c l σ = some (a, σ₁, true)) (h2 : r.ev c q σ₁ = some (b, σ2, true)) (h3 : binA .Add a b σ2 = some (v, σ3, true)) : evA T r c (.BinOp l .Add q p) σ = some (v, σ3, true) := by
 show binX T r c l .Add q σ = _
 unfold binX
 rw [g]
 exact bn2_of h1 (bn2_of h2 h3)
theorem ev_cmpE {l q : Expr} {op : CmpOp} {p : Pos} {a b : AV} {t : Bool} (g : notSet q = true) (h1 : r.ev c l σ = some (a, σ₁, true)) (h2 : r.ev c q σ₁ = some (b, σ2, true)) (h3 : cmpA op a b σ2 = some (t, σ3, true)) : evA T r c (.Compare l [op] [q] p) σ = some (.bool t, σ3, true) := by
 exact bnd_of (oneV_one _) (bnd_of (oneV_one _) (bn2_of (gd_of g (bn2_of h1 (bn2_of h2 h3))) ok_eq))
theorem ev_comp {elt iter : Expr} {x : Str} {p p2 : Pos} {sc : Scope} {v : AV} (g : notSet iter = true) (h : compA r c x iter [] elt sc σ = some (v, σ₁, true)) : evA T r c (.ListComp elt [⟨.Name x p, iter, [], 0⟩] sc p2) σ = some (v, σ₁, true) := by
 exact bnd_of (a := ⟨x, iter, []⟩) (bnd_of (oneV_one _) (by kernel_rfl!)) (gd_of (and_i rfl g) h)
end
theorem cxC_eq : (⟨Nat.succ 5, { kind := scL.kind, names := relN cxL scL.names, isGenerator := scL.isGenerator, isCoroutine := scL.isCoroutine }, ownC (Nat.succ (Nat.succ 5)) scL.names []⟩ : Cx) = cxC /\ ownO scL.names = [] := ⟨by kernel_rfl!, by kernel_rfl!⟩
theorem v_draws (l : List Int) (hl : l.length <= 700) : (up zA 35).ex cxL (s947 1) (stU (intsI l)) = some (.next, st0 (intsI l) (intsI (l.take 6)) (intsD (drawsOf (l.take 6))) (intsD (11 :: drawsOf (l.take 6))), true) := by
 have ht : (l.take 6).length <= 6 := List.length_take_le 6 l
 rw [upA_ex, s947_1]
 refine ex_asg rfl ?_ (v_9 _ _ _ _)
 rw [upA_ev]
 have it := v_2 (intsI l)
 rw [fit_of (by rw [intsI_len]; exact le_c ‹_› rfl), takeP_ints] at it
 have c := compA_of (x := S "x") (elt := eltL) (ifs := []) it (v_3 _ _) v_4.1 v_4.2 (σ2 := stC (intsI l) (intsD (drawsOf (l.take 6)))) (by
  rw [len11, cxC_eq.1, cxC_eq.2]
  show compL (up zA 32) cxC (S "x") [] eltL 5 7 (intsI (l.take 6)) (blurC cxC (S "x") (lockA (some 4) (st11 (intsI l) ++ [.list (intsI (l.take 6))]) ++ [.list [], .ns []])) = _
  rw [v_5]
  exact v_turns (intsI l) (l.take 6) [] (by rw [List.length_nil]; exact le_0 ‹_› rfl)) (by rw [len11]; exact v_6 (intsI l) [] _)
 rw [len11, v_7 (intsI l) (intsI (l.take 6))] at c
 have b := v_8 (intsI l) (intsI (l.take 6)) (intsD (drawsOf (l.take 6)))
 rw [fit_of (by rw [intsD_len, drawsOf_len]; exact le_c ‹_› rfl)] at b
 refine ev_binL (by kernel_rfl!) (v_1 _) ?_ b
 rw [upA_ev]
 exact ev_comp rfl c
structure PLaw (L : List Nat) : Prop where
 told : toldR L T0 = qTL L N0
 due : ∃ ca cc sa sb sc : Int, intPe (qCL L 0 N0 C0) = [.int ca, .int 0, .int cc] /\ intPe (qOL L 0 N0 O0) = [.int sa, .int sb, .int sc] /\ ∀ (B : Bk) (N D : List PyData), tailV B N D ca cc sa sb sc = outV B D (back L T0)
theorem w_1 (s0 s4 s5 dr : List PyData) : nameA TT cxL (S "_law_there_and_back") (st0 s0 s4 s5 dr) = some (.raw (.ref 937), st0 s0 s4 s5 dr, true) := by kernel_rfl!
theorem w_2 (s0 s4 s5 dr : List PyData) : evsA (up zA 32) cxL [.Name (S "rows") ⟨921, 31, 921, 35⟩, .Name (S "draws") ⟨921, 37, 921, 42⟩] (st0 s0 s4 s5 dr) = some ([.ref 2, .ref 7], st0 s0 s4 s5 dr, true) := by kernel_rfl!
theorem w_3 (B : Bk) : nameA TT cxL (S "_law_due") (stB B) = some (.raw (.ref 942), stB B, true) := by kernel_rfl!
theorem w_4 (B : Bk) : evsA (up zA 32) cxL [.Name (S "rows") ⟨921, 56, 921, 60⟩, .Name (S "draws") ⟨921, 62, 921, 67⟩] (stB B) = some ([.ref 2, .ref 7], stB B, true) := by kernel_rfl!
theorem body947 : fn947.body = [s947 0, s947 1, s947 2] := by kernel_rfl!
theorem upA_947 {n : Nat} {d : PyData} {σ : St} : (up zA (n + 1)).call 947 [.dat d] [] σ = callA TT (up zA n) 947 [.dat d] [] σ := by kernel_rfl
theorem fn947_ok (d : PyData) : Nat.beq 947 908 = false /\ nlook 947 TT.fns = some [fn947] /\ pickFn (len [AV.dat d]) [] [fn947] = some fn947 /\ bindsA [AV.dat d] [] fn947.binds = some [(S "script", .dat d)] /\ fn947.kwd = none /\ fn947.cel = none := ⟨by kernel_rfl!, by kernel_rfl!, by kernel_rfl!, by kernel_rfl!, by kernel_rfl!, by kernel_rfl!⟩
theorem pdEq_out (l : List (List Row × List Row)) (X : List Row) : pdEq (.tuple [.list (l.map toldP), .list (rps X)]) (.tuple [.list (l.map toldP), .list (rps X)]) = true :=
 show pdEqs [.list (l.map toldP), .list (rps X)] [.list (l.map toldP), .list (rps X)] = true from pdEqs_cons (pdEqs_told l) (pdEqs_cons (pdEqs_rps X) rfl)
theorem law_true (l : List Int) (hl : l.length <= 700) (P : PLaw (11 :: drawsOf (l.take 6))) : ∃ σ, (up zA 36).call 947 [.dat (.list (intsI l))] [] [.junk] = some (.bool true, σ, true) := by
 have h6 : (l.take 6).length <= 6 := List.length_take_le 6 l
 have hL : ∀ r, r ∈ 11 :: drawsOf (l.take 6) -> r < 54 := fun r m => by
  rcases List.mem_cons.1 m with rfl | m
  · decide
  · exact drawsOf_lt _ _ m
 have hn : (11 :: drawsOf (l.take 6)).length <= 7 := by rw [List.length_cons, drawsOf_len]; exact lt_c ‹_› rfl
 have d := v_draws l hl
 obtain ⟨X, c⟩ := call937 (intsI l) (intsI (l.take 6)) (intsD (drawsOf (l.take 6))) (11 :: drawsOf (l.take 6)) hL hn
 generalize hLL : 11 :: drawsOf (l.take 6) = L at *
 obtain ⟨ca, cc, sa, sb, sc, hC, hO, ht⟩ := P.due
 let B : Bk := ⟨intsI l, intsI (l.take 6), intsD (drawsOf (l.take 6)), intsD L, linesD (lineR L T0), toldD (toldR L T0), rps (back L T0), X⟩
 obtain ⟨σ, e, r1, r2⟩ := call942 B L rfl hL (le_c ‹_› rfl) hC hO (ht B _ _)
 have q1 : (up zA 33).ev cxL cx37 (st0 (intsI l) (intsI (l.take 6)) (intsD (drawsOf (l.take 6))) (intsD L)) = some (.ref 18, stB B, true) := by
  rw [upA_ev]
  exact ev_fn (w_1 _ _ _ _) fn937_ok.2.1 rfl (w_2 _ _ _ _) c
 have q2 : (up zA 33).ev cxL cx42 (stB B) = some (.ref 31, σ, true) := by
  rw [upA_ev]
  exact ev_fn (w_3 B) fn942_ok.2.1 rfl (w_4 B) e
 have q3 : cmpA .Eq (.ref 18) (.ref 31) σ = some (true, σ, true) := by
  show eqVA (.ref 18) (.ref 31) σ = _
  have e1 : B.td = (qTL L N0).map toldP := by show toldD (toldR L T0) = _; rw [toldD_map, P.told]
  have e2 : B.t = rps (back L T0) := rfl
  rw [e1, e2] at r1
  unfold eqVA
  refine bnd_of r1 (bnd_of r2 (chk_of (shp_out _ _) (chk_of (shp_out _ _) ?_)))
  rw [pdEq_out]
  exact ok_eq
 have q4 : (up zA 35).ex cxL (s947 2) (st0 (intsI l) (intsI (l.take 6)) (intsD (drawsOf (l.take 6))) (intsD L)) = some (.ret (.bool true), σ, true) := by
  rw [upA_ex, s947_2]
  refine ex_ret ?_
  rw [upA_ev]
  exact ev_cmpE rfl q1 q2 q3
 obtain ⟨a1, a2, a3, a4, a5, a6⟩ := fn947_ok (.list (intsI l))
 have E : exsA (up zA 35) cxL fn947.body ([.junk] ++ [.ns [(S "script", .dat (.list (intsI l)))]]) = some (.ret (.bool true), σ, true) := by
  rw [body947]
  exact exs_cons (v_0 (intsI l)) (exs_cons d (exs_ret q4))
 refine ⟨setNth σ 1 .junk, ?_⟩
 rw [upA_947]
 exact callA_of (T := TT) (r := up zA 35) (f := 947) (vs := [.dat (.list (intsI l))]) a1 a2 a3 a4 a5 a6 E
end
section
theorem keq_iff {a b : Kd} : keq a b = true ↔ a = b := ⟨fun h => by cases a <;> cases b <;> first | rfl | exact Bool.noConfusion h, fun h => by subst h; cases a <;> rfl⟩
theorem keq_refl (a : Kd) : keq a a = true := keq_iff.2 rfl
theorem keq_ne {a b : Kd} (h : keq a b = false) : a ≠ b := fun e => by rw [e, keq_refl] at h; cases h
theorem nmq_ok {a b : Nm} (h : nmq a b = true) : a = b := by
 cases a <;> cases b <;> first | rfl | exact Bool.noConfusion h
theorem vlq_ok {a b : Vl} (h : vlq a b = true) : a = b := by
 cases a <;> cases b <;> first | rfl | exact Bool.noConfusion h
theorem req_of {a b : Row} (h : req a b = true) : a = b := by
 obtain ⟨n, v⟩ := a
 obtain ⟨m, w⟩ := b
 unfold req at h
 dsimp only at h
 cases e : nmq n m with
 | false => rw [e] at h; exact Bool.noConfusion h
 | true => rw [e] at h; rw [nmq_ok e, vlq_ok h]
theorem req_iff {a b : Row} : req a b = true ↔ a = b := ⟨req_of, fun e => e ▸ req_refl a⟩
theorem remR_none {d : Row} : ∀ {l : List Row}, d ∉ l -> remR d l = none
 | [], _ => rfl
 | r :: l, h => by
  have h1 : r ≠ d := fun e => h (e ▸ List.mem_cons_self ..)
  have h2 : req r d = false := by
   cases e : req r d with
   | false => rfl
   | true => exact absurd (req_iff.1 e) h1
  unfold remR
  rw [h2, remR_none fun m => h (List.mem_cons_of_mem _ m)]
theorem remR_some {d : Row} : ∀ {l : List Row}, d ∈ l -> ∃ k, remR d l = some k /\ l.Perm (d :: k)
 | r :: l, h => by
  cases e : req r d with
  | true =>
   have := req_iff.1 e
   subst this
   exact ⟨l, by unfold remR; rw [e], .refl _⟩
  | false =>
   have h1 : r ≠ d := fun x => by rw [x, req_refl] at e; cases e
   have h2 : d ∈ l := by
    rcases List.mem_cons.1 h with x | x
    · exact absurd x.symm h1
    · exact x
   obtain ⟨k, hk, p⟩ := remR_some h2
   refine ⟨r :: k, by unfold remR; rw [e, hk], ?_⟩
   exact (p.cons r).trans (.swap ..)
theorem keepK_cons_t {k : Kd} {r : Row} {l : List Row} (h : keq r.1.k k = true) : keepK k (r :: l) = keepK k l := by rw [keepK, h]
theorem keepK_cons_f {k : Kd} {r : Row} {l : List Row} (h : keq r.1.k k = false) : keepK k (r :: l) = r :: keepK k l := by rw [keepK, h]
theorem rowsK_cons_t {k : Kd} {r : Row} {l : List Row} (h : keq r.1.k k = true) : rowsK k (r :: l) = r :: rowsK k l := by rw [rowsK, h]
theorem rowsK_cons_f {k : Kd} {r : Row} {l : List Row} (h : keq r.1.k k = false) : rowsK k (r :: l) = rowsK k l := by rw [rowsK, h]
theorem keepK_mem {k : Kd} {r : Row} : ∀ {l : List Row}, r ∈ keepK k l -> keq r.1.k k = false
 | q :: l, h => by
  cases e : keq q.1.k k with
  | true => rw [keepK_cons_t e] at h; exact keepK_mem h
  | false =>
   rw [keepK_cons_f e] at h
   rcases List.mem_cons.1 h with rfl | h
   · exact e
   · exact keepK_mem h
theorem rowsK_mem {k : Kd} {r : Row} : ∀ {l : List Row}, r ∈ rowsK k l -> keq r.1.k k = true
 | q :: l, h => by
  cases e : keq q.1.k k with
  | false => rw [rowsK_cons_f e] at h; exact rowsK_mem h
  | true =>
   rw [rowsK_cons_t e] at h
   rcases List.mem_cons.1 h with rfl | h
   · exact e
   · exact rowsK_mem h
theorem keepK_app (k : Kd) : ∀ a b : List Row, keepK k (a ++ b) = keepK k a ++ keepK k b
 | [], b => rfl
 | r :: a, b => by
  rw [List.cons_append]
  cases e : keq r.1.k k with
  | true => rw [keepK_cons_t e, keepK_cons_t e, keepK_app k a b]
  | false => rw [keepK_cons_f e, keepK_cons_f e, keepK_app k a b, List.cons_append]
theorem rowsK_app (k : Kd) : ∀ a b : List Row, rowsK k (a ++ b) = rowsK k a ++ rowsK k b
 | [], b => rfl
 | r :: a, b => by
  rw [List.cons_append]
  cases e : keq r.1.k k with
  | true => rw [rowsK_cons_t e, rowsK_cons_t e, rowsK_app k a b, List.cons_append]
  | false => rw [rowsK_cons_f e, rowsK_cons_f e, rowsK_app k a b]
theorem keepK_rev (k : Kd) : ∀ a : List Row, keepK k a.reverse = (keepK k a).reverse
 | [] => rfl
 | r :: a => by
  rw [List.reverse_cons, keepK_app, keepK_rev k a]
  cases e : keq r.1.k k with
  | true => rw [keepK_cons_t e, keepK_cons_t e]; exact List.append_nil _
  | false => rw [keepK_cons_f e, keepK_cons_f e, List.reverse_cons]; rfl
theorem rowsK_rev (k : Kd) : ∀ a : List Row, rowsK k a.reverse = (rowsK k a).reverse
 | [] => rfl
 | r :: a => by
  rw [List.reverse_cons, rowsK_app, rowsK_rev k a]
  cases e : keq r.1.k k with
  | true => rw [rowsK_cons_t e, rowsK_cons_t e, List.reverse_cons]; rfl
  | false => rw [rowsK_cons_f e, rowsK_cons_f e]; exact List.append_nil _
theorem uld_all : ∀ (E A M X : List Row), A.Perm (E ++ X) -> ∃ C, uldR E A M = (M, C) /\ C.Perm X
 | [], A, M, X, h => ⟨A, rfl, h⟩
 | r :: E, A, M, X, h => by
  have hm : r ∈ A := h.mem_iff.2 (by simp)
  obtain ⟨A', e, p⟩ := remR_some hm
  have h2 : A'.Perm (E ++ X) := (p.symm.trans h).cons_inv
  obtain ⟨C, hc, hp⟩ := uld_all E A' M X h2
  refine ⟨C, ?_, hp⟩
  unfold uldR
  rw [e]
  exact hc
theorem uld_none (k : Kd) : ∀ (E A M : List Row), A.Perm (keepK k E) -> uldR E A M = (M ++ rowsK k E, [])
 | [], A, M, h => by
  have : A = [] := List.perm_nil.1 h
  subst this
  show (M, []) = (M ++ [], [])
  rw [List.append_nil]
 | r :: E, A, M, h => by
  cases e : keq r.1.k k with
  | true =>
   rw [keepK_cons_t e] at h
   have hm : r ∉ A := fun m => by
    have := keepK_mem (h.mem_iff.1 m)
    rw [e] at this; cases this
   unfold uldR
   rw [remR_none hm]
   dsimp only
   rw [uld_none k E A _ h, rowsK_cons_t e, List.append_assoc]
   rfl
  | false =>
   rw [keepK_cons_f e] at h
   have hm : r ∈ A := h.mem_iff.2 (List.mem_cons_self ..)
   obtain ⟨A', ea, p⟩ := remR_some hm
   unfold uldR
   rw [ea]
   dsimp only
   rw [uld_none k E A' M ((p.symm.trans h).cons_inv), rowsK_cons_f e]
theorem uld_one (k : Kd) (d : Row) (hd : keq d.1.k k = true) : ∀ (E A M : List Row), A.Perm (keepK k E ++ [d]) -> uldR E A M = (match remR d (rowsK k E) with | some g => (M ++ g, []) | none => (M ++ rowsK k E, [d]))
 | [], A, M, h => by
  have : A = [d] := List.perm_singleton.1 h
  subst this
  show (M, [d]) = (M ++ [], [d])
  rw [List.append_nil]
 | r :: E, A, M, h => by
  cases e : keq r.1.k k with
  | true =>
   rw [keepK_cons_t e] at h
   rw [rowsK_cons_t e]
   cases eq : req r d with
   | true =>
    have := req_iff.1 eq
    subst this
    have hm : r ∈ A := h.mem_iff.2 (by simp)
    obtain ⟨A', ea, p⟩ := remR_some hm
    have h2 : A'.Perm (keepK k E) := (p.symm.trans (h.trans List.perm_append_comm)).cons_inv
    have hr : remR r (r :: rowsK k E) = some (rowsK k E) := by unfold remR; rw [eq]
    rw [hr]
    unfold uldR
    rw [ea]
    dsimp only
    exact uld_none k E A' M h2
   | false =>
    have hm : r ∉ A := fun m => by
     rcases List.mem_append.1 (h.mem_iff.1 m) with x | x
     · have := keepK_mem x
       rw [e] at this; cases this
     · rw [List.mem_singleton.1 x, req_refl] at eq; cases eq
    unfold uldR
    rw [remR_none hm]
    dsimp only
    rw [uld_one k d hd E A _ h, remR, eq]
    dsimp only
    cases remR d (rowsK k E) with
    | none => dsimp only; rw [List.append_assoc]; rfl
    | some g => dsimp only; rw [List.append_assoc]; rfl
  | false =>
   rw [keepK_cons_f e] at h
   have hm : r ∈ A := h.mem_iff.2 (by simp)
   obtain ⟨A', ea, p⟩ := remR_some hm
   unfold uldR
   rw [ea]
   dsimp only
   rw [uld_one k d hd E A' M ((p.symm.trans h).cons_inv), rowsK_cons_f e]
noncomputable def NT (T : List Row) (k : Kd) : List Row := rowsK k T
theorem uld_qT (d : Dr) (T : List Row) : uld T (stepT d T) = qT d (NT T) := by
 obtain ⟨o, p⟩ := d
 unfold uld stepT qT NT
 cases o with
 | st =>
  dsimp only
  have h : (keepK p.1.k T ++ [p]).Perm (keepK p.1.k T.reverse ++ [p]) := by
   rw [keepK_rev]
   exact (List.reverse_perm _).symm.append_right _
  rw [uld_one p.1.k p (keq_refl _) T.reverse _ [] h, rowsK_rev]
  cases remR p (rowsK p.1.k T).reverse <;> rfl
 | ad =>
  dsimp only
  obtain ⟨C, hc, hp⟩ := uld_all T.reverse (T ++ [p]) [] [p] ((List.reverse_perm T).symm.append_right _)
  rw [hc, List.perm_singleton.1 hp]
 | de =>
  dsimp only
  have h : (keepK p.1.k T).Perm (keepK p.1.k T.reverse) := by
   rw [keepK_rev]
   exact (List.reverse_perm _).symm
  rw [uld_none p.1.k T.reverse _ [] h, rowsK_rev]
  rfl
theorem rowsK_keepK_same (k : Kd) : ∀ T : List Row, rowsK k (keepK k T) = []
 | [] => rfl
 | r :: T => by
  cases e : keq r.1.k k with
  | true => rw [keepK_cons_t e, rowsK_keepK_same k T]
  | false => rw [keepK_cons_f e, rowsK_cons_f e, rowsK_keepK_same k T]
theorem rowsK_keepK (k j : Kd) (h : keq j k = false) : ∀ T : List Row, rowsK j (keepK k T) = rowsK j T
 | [] => rfl
 | r :: T => by
  cases e : keq r.1.k k with
  | true =>
   have e2 : keq r.1.k j = false := by
    cases e2 : keq r.1.k j with
    | false => rfl
    | true =>
     rw [keq_iff.1 e2] at e
     rw [e] at h; cases h
   rw [keepK_cons_t e, rowsK_cons_f e2, rowsK_keepK k j h T]
  | false =>
   rw [keepK_cons_f e]
   cases e2 : keq r.1.k j with
   | true => rw [rowsK_cons_t e2, rowsK_cons_t e2, rowsK_keepK k j h T]
   | false => rw [rowsK_cons_f e2, rowsK_cons_f e2, rowsK_keepK k j h T]
theorem rowsK_one_t {k : Kd} {p : Row} (h : keq p.1.k k = true) : rowsK k [p] = [p] := by rw [rowsK_cons_t h]; rfl
theorem rowsK_one_f {k : Kd} {p : Row} (h : keq p.1.k k = false) : rowsK k [p] = [] := by rw [rowsK_cons_f h]; rfl
theorem keq_comm (a b : Kd) : keq a b = keq b a := by cases a <;> cases b <;> rfl
theorem qN_NT (d : Dr) (T : List Row) : qN d (NT T) = NT (stepT d T) := by
 obtain ⟨o, p⟩ := d
 funext j
 unfold qN upd NT stepT
 dsimp only
 cases e : keq j p.1.k with
 | true =>
  have e1 := keq_iff.1 e
  subst e1
  cases o with
  | st => dsimp only; rw [rowsK_app, rowsK_keepK_same, rowsK_one_t (keq_refl _)]; rfl
  | ad => dsimp only; rw [rowsK_app, rowsK_one_t (keq_refl _)]
  | de => dsimp only; rw [rowsK_keepK_same]
 | false =>
  have e2 : keq p.1.k j = false := by rw [keq_comm]; exact e
  cases o with
  | st => dsimp only; rw [rowsK_app, rowsK_keepK _ _ e, rowsK_one_f e2, List.append_nil]
  | ad => dsimp only; rw [rowsK_app, rowsK_one_f e2, List.append_nil]
  | de => dsimp only; rw [rowsK_keepK _ _ e]
theorem told_eq : ∀ (l : List Nat) (T : List Row), toldR l T = qTL l (NT T)
 | [], _ => rfl
 | r :: l, T => by
  show uld T (stepT (drOf r) T) :: toldR l (stepT (drOf r) T) = qT (drOf r) (NT T) :: qTL l (qN (drOf r) (NT T))
  rw [uld_qT, qN_NT, told_eq l]
noncomputable def filt (u : Kd -> Bool) : List Row -> List Row
 | [] => []
 | r :: l => match u r.1.k with | true => r :: filt u l | false => filt u l
theorem filt_t {u : Kd -> Bool} {r : Row} {l : List Row} (h : u r.1.k = true) : filt u (r :: l) = r :: filt u l := by rw [filt, h]
theorem filt_f {u : Kd -> Bool} {r : Row} {l : List Row} (h : u r.1.k = false) : filt u (r :: l) = filt u l := by rw [filt, h]
theorem filt_app (u : Kd -> Bool) : ∀ a b : List Row, filt u (a ++ b) = filt u a ++ filt u b
 | [], b => rfl
 | r :: a, b => by
  rw [List.cons_append]
  cases e : u r.1.k with
  | true => rw [filt_t e, filt_t e, filt_app u a b, List.cons_append]
  | false => rw [filt_f e, filt_f e, filt_app u a b]
theorem upd_same {α : Type} (k : Kd) (x : α) (u : Kd -> α) : upd k x u k = x := by unfold upd; rw [keq_refl]
theorem upd_other {α : Type} {k j : Kd} (x : α) (u : Kd -> α) (h : keq j k = false) : upd k x u j = u j := by unfold upd; rw [h]
theorem filt_keepK (u : Kd -> Bool) (k : Kd) : ∀ X : List Row, filt u (keepK k X) = filt (upd k false u) X
 | [] => rfl
 | r :: X => by
  cases e : keq r.1.k k with
  | true => rw [keepK_cons_t e, filt_f (by rw [keq_iff.1 e, upd_same]), filt_keepK u k X]
  | false =>
   rw [keepK_cons_f e]
   cases e2 : u r.1.k with
   | true => rw [filt_t e2, filt_t (by rw [upd_other _ _ e, e2]), filt_keepK u k X]
   | false => rw [filt_f e2, filt_f (by rw [upd_other _ _ e, e2]), filt_keepK u k X]
theorem keepK_filt (u : Kd -> Bool) (k : Kd) : ∀ X : List Row, keepK k (filt u X) = filt (upd k false u) X
 | [] => rfl
 | r :: X => by
  cases e2 : u r.1.k with
  | true =>
   rw [filt_t e2]
   cases e : keq r.1.k k with
   | true => rw [keepK_cons_t e, filt_f (by rw [keq_iff.1 e, upd_same]), keepK_filt u k X]
   | false => rw [keepK_cons_f e, filt_t (by rw [upd_other _ _ e, e2]), keepK_filt u k X]
  | false =>
   rw [filt_f e2]
   cases e : keq r.1.k k with
   | true => rw [filt_f (by rw [keq_iff.1 e, upd_same]), keepK_filt u k X]
   | false => rw [filt_f (by rw [upd_other _ _ e, e2]), keepK_filt u k X]
theorem rowsK_filt {u : Kd -> Bool} {k : Kd} (h : u k = true) : ∀ X : List Row, rowsK k (filt u X) = rowsK k X
 | [] => rfl
 | r :: X => by
  cases e2 : u r.1.k with
  | true =>
   rw [filt_t e2]
   cases e : keq r.1.k k with
   | true => rw [rowsK_cons_t e, rowsK_cons_t e, rowsK_filt h X]
   | false => rw [rowsK_cons_f e, rowsK_cons_f e, rowsK_filt h X]
  | false =>
   have e : keq r.1.k k = false := by
    cases e : keq r.1.k k with
    | false => rfl
    | true => rw [keq_iff.1 e, h] at e2; cases e2
   rw [filt_f e2, rowsK_cons_f e, rowsK_filt h X]
theorem filt_rowsK_t {u : Kd -> Bool} {k : Kd} (h : u k = true) : ∀ X : List Row, filt u (rowsK k X) = rowsK k X
 | [] => rfl
 | r :: X => by
  cases e : keq r.1.k k with
  | true => rw [rowsK_cons_t e, filt_t (by rw [keq_iff.1 e, h]), filt_rowsK_t h X]
  | false => rw [rowsK_cons_f e, filt_rowsK_t h X]
theorem filt_rowsK_f {u : Kd -> Bool} {k : Kd} (h : u k = false) : ∀ X : List Row, filt u (rowsK k X) = []
 | [] => rfl
 | r :: X => by
  cases e : keq r.1.k k with
  | true => rw [rowsK_cons_t e, filt_f (by rw [keq_iff.1 e, h]), filt_rowsK_f h X]
  | false => rw [rowsK_cons_f e, filt_rowsK_f h X]
theorem upd_id {α : Type} {k : Kd} {x : α} {u : Kd -> α} (h : u k = x) : upd k x u = u := by
 funext j
 cases e : keq j k with
 | true => rw [keq_iff.1 e, upd_same, h]
 | false => rw [upd_other _ _ e]
theorem keepK_id {k : Kd} : ∀ {X : List Row}, rowsK k X = [] -> keepK k X = X
 | [], _ => rfl
 | r :: X, h => by
  cases e : keq r.1.k k with
  | true => rw [rowsK_cons_t e] at h; cases h
  | false => rw [rowsK_cons_f e] at h; rw [keepK_cons_f e, keepK_id h]
theorem filt_step (u : Kd -> Bool) (d : Dr) (T : List Row) (h : u d.2.1.k = false) : filt u (stepT d T) = filt u T := by
 obtain ⟨o, p⟩ := d
 unfold stepT
 cases o with
 | st => dsimp only at h ⊢; rw [filt_app, filt_keepK, upd_id h, filt_f h]; exact List.append_nil _
 | ad => dsimp only at h ⊢; rw [filt_app, filt_f h]; exact List.append_nil _
 | de => dsimp only at h ⊢; rw [filt_keepK, upd_id h]
theorem qT_kind (d : Dr) (T : List Row) (r : Row) (h : r ∈ (qT d (NT T)).1 ++ (qT d (NT T)).2) : keq r.1.k d.2.1.k = true := by
 obtain ⟨o, p⟩ := d
 have hR : ∀ r, r ∈ (rowsK p.1.k T).reverse -> keq r.1.k p.1.k = true := fun r m => rowsK_mem (List.mem_reverse.1 m)
 have hp : ∀ r, r ∈ [p] -> keq r.1.k p.1.k = true := fun r m => by rw [List.mem_singleton.1 m]; exact keq_refl _
 unfold qT NT at h
 cases o with
 | st =>
  dsimp only at h
  cases e : remR p (rowsK p.1.k T).reverse with
  | none =>
   rw [e] at h
   rcases List.mem_append.1 h with m | m
   · exact hR r m
   · exact hp r m
  | some g =>
   rw [e] at h
   rcases List.mem_append.1 h with m | m
   · by_cases hm : p ∈ (rowsK p.1.k T).reverse
     · obtain ⟨g', e', q⟩ := remR_some hm
       rw [e] at e'; cases e'
       exact hR r (q.mem_iff.2 (List.mem_cons_of_mem _ m))
     · rw [remR_none hm] at e; cases e
   · cases m
 | ad =>
  rcases List.mem_append.1 h with m | m
  · cases m
  · exact hp r m
 | de =>
  rcases List.mem_append.1 h with m | m
  · exact hR r m
  · cases m
theorem line_eq (d : Dr) (T : List Row) : wdT (uld T (stepT d T)) T = match told (qT d (NT T)) with | true => some (d.2.1.k, rowsK d.2.1.k T) | false => none := by
 rw [uld_qT]
 have hk := qT_kind d T
 unfold wdT told
 generalize qT d (NT T) = p at *
 cases e : p.1 ++ p.2 with
 | nil => rfl
 | cons r R =>
  have := keq_iff.1 (hk r (by rw [e]; exact List.mem_cons_self ..))
  show some (r.1.k, rowsK r.1.k T) = some (d.2.1.k, rowsK d.2.1.k T)
  rw [this]
noncomputable def unch (C : Kd -> Int) (k : Kd) : Bool := match ilt (C k) 99 with | true => false | false => true
noncomputable def Uf (ua uc s : Bool) : List Row := match ua, uc with
 | true, true => (match s with | true => [rA, rc, ra] | false => [rA, ra, rc])
 | true, false => [rA, ra]
 | false, true => [rc]
 | false, false => []
noncomputable def Pf (ua uc t : Bool) : List Row := match ua, uc with
 | true, true => [rb]
 | true, false => [rc, rb]
 | false, true => [rA, ra, rb]
 | false, false => (match t with | true => [rc, rA, ra, rb] | false => [rA, ra, rc, rb])
theorem due_UP (ca cc sc : Int) : dueL ca cc sc = Uf (match ilt ca 99 with | true => false | false => true) (match ilt cc 99 with | true => false | false => true) (ilt sc 0) ++ Pf (match ilt ca 99 with | true => false | false => true) (match ilt cc 99 with | true => false | false => true) (ilt ca cc) := by
 unfold dueL
 cases ilt ca 99 <;> cases ilt cc 99 <;> dsimp only
 · cases ilt sc 0 <;> rfl
 · rfl
 · rfl
 · cases ilt ca cc <;> rfl
structure Inv (j : Nat) (T : List Row) (C O : Kd -> Int) : Prop where
 cb : C .b = 0
 ca : (C .a = 99 /\ O .a = -1) \/ ∃ n, 1 <= n /\ n < j /\ C .a = .ofNat n
 cc : (C .c = 99 /\ (O .c = -1 \/ ∃ n, n < j /\ O .c = .ofNat n)) \/ ∃ n, 1 <= n /\ n < j /\ C .c = .ofNat n
 ne : C .a = C .c -> C .a = 99
 fl : filt (unch C) T = Uf (unch C .a) (unch C .c) (ilt (O .c) 0)
theorem unch_99 {C : Kd -> Int} {k : Kd} (h : C k = 99) : unch C k = true := by unfold unch; rw [h]; rfl
theorem unch_lt {C : Kd -> Int} {k : Kd} {n : Nat} (h : C k = .ofNat n) (hn : n < 99) : unch C k = false := by
 unfold unch
 rw [h]
 have : ilt (.ofNat n) 99 = true := Nat.ble_eq_true_of_le hn
 rw [this]
theorem imin_99 {j : Nat} (h : j < 99) : imin 99 j = .ofNat j := by
 unfold imin
 have : ilt (.ofNat j) 99 = true := Nat.ble_eq_true_of_le h
 rw [this]
theorem imin_lt {n j : Nat} (h : n < j) : imin (.ofNat n) j = .ofNat n := by
 unfold imin
 have : ilt (.ofNat j) (.ofNat n) = false := by
  show Nat.ble (j + 1) n = false
  cases e : Nat.ble (j + 1) n with
  | false => rfl
  | true => have := Nat.le_of_ble_eq_true e; lia
 rw [this]
theorem unch_upd (k : Kd) (j : Nat) (hj : j < 99) (C : Kd -> Int) : unch (upd k (.ofNat j) C) = upd k false (unch C) := by
 funext i
 cases e : keq i k with
 | true =>
  rw [keq_iff.1 e, upd_same]
  exact unch_lt (upd_same k _ C) hj
 | false =>
  rw [upd_other _ _ e]
  unfold unch
  rw [upd_other _ _ e]
theorem Inv.kind {j : Nat} {T : List Row} {C O : Kd -> Int} (I : Inv j T C O) (hj : 1 <= j) (k : Kd) : C k = 99 \/ ∃ n, n < j /\ C k = .ofNat n := by
 cases k with
 | a => rcases I.ca with h | ⟨n, _, h2, h3⟩; exact .inl h.1; exact .inr ⟨n, h2, h3⟩
 | b => exact .inr ⟨0, hj, I.cb⟩
 | c => rcases I.cc with h | ⟨n, _, h2, h3⟩; exact .inl h.1; exact .inr ⟨n, h2, h3⟩
noncomputable def PC (C : Kd -> Int) : List Row := Pf (unch C .a) (unch C .c) (ilt (C .a) (C .c))
theorem qT_empty {d : Dr} {N : Kd -> List Row} (h : told (qT d N) = false) : (qT d N).1 = [] /\ (qT d N).2 = [] := by
 unfold told at h
 generalize qT d N = p at *
 obtain ⟨a, b⟩ := p
 cases a with
 | nil =>
  cases b with
  | nil => exact ⟨rfl, rfl⟩
  | cons => cases h
 | cons => cases h
theorem remR_nil {d : Row} {l : List Row} (h : remR d l = some []) : l = [d] := by
 by_cases hm : d ∈ l
 · obtain ⟨k, e, p⟩ := remR_some hm
   rw [h] at e
   cases e
   exact List.perm_singleton.1 p
 · rw [remR_none hm] at h; cases h
theorem silent {d : Dr} {T : List Row} (h : told (qT d (NT T)) = false) : (d.1 = .st /\ rowsK d.2.1.k T = [d.2]) \/ (d.1 = .de /\ rowsK d.2.1.k T = []) := by
 have := qT_empty h
 obtain ⟨o, p⟩ := d
 unfold qT NT at this
 cases o with
 | st =>
  left
  refine ⟨rfl, ?_⟩
  dsimp only at this ⊢
  cases e : remR p (rowsK p.1.k T).reverse with
  | none => rw [e] at this; cases this.2
  | some g =>
   rw [e] at this
   have hg : g = [] := this.1
   subst hg
   have := remR_nil e
   have := congrArg List.reverse this
   rw [List.reverse_reverse] at this
   exact this
 | ad => cases this.2
 | de =>
  right
  refine ⟨rfl, ?_⟩
  have := congrArg List.reverse this.1
  rw [List.reverse_reverse] at this
  exact this
theorem Inv.mono {j : Nat} {T : List Row} {C O : Kd -> Int} (I : Inv j T C O) : Inv (j + 1) T C O where
 cb := I.cb
 ca := I.ca.imp id fun ⟨n, a, b, c⟩ => ⟨n, a, by exact Nat.le_succ_of_le ‹_›, c⟩
 cc := I.cc.imp (fun ⟨h, g⟩ => ⟨h, g.imp id fun ⟨n, a, b⟩ => ⟨n, by exact Nat.le_succ_of_le ‹_›, b⟩⟩) fun ⟨n, a, b, c⟩ => ⟨n, a, by exact Nat.le_succ_of_le ‹_›, c⟩
 ne := I.ne
 fl := I.fl
theorem Inv.withT {j : Nat} {T T' : List Row} {C O : Kd -> Int} (I : Inv j T C O) (h : filt (unch C) T' = filt (unch C) T) : Inv j T' C O where
 cb := I.cb
 ca := I.ca
 cc := I.cc
 ne := I.ne
 fl := h.trans I.fl
theorem ofNat_ne99 {n : Nat} (h : n < 99) : (Int.ofNat n) ≠ 99 := fun e => by
 have : n = 99 := Int.ofNat.inj e
 lia
theorem blt_f {n j : Nat} (h : n < j) : ilt (.ofNat j) (.ofNat n) = false := by
 show Nat.ble (j + 1) n = false
 cases e : Nat.ble (j + 1) n with
 | false => rfl
 | true => have := Nat.le_of_ble_eq_true e; lia
theorem blt_t {n j : Nat} (h : n < j) : ilt (.ofNat n) (.ofNat j) = true := Nat.ble_eq_true_of_le h
theorem first {j : Nat} {T : List Row} {C O : Kd -> Int} {d : Dr} (I : Inv j T C O) (hj : 1 <= j) (h99 : j < 99) (hC : C d.2.1.k = 99) : Inv (j + 1) (stepT d T) (upd d.2.1.k (.ofNat j) C) O /\ rowsK d.2.1.k T ++ PC C = PC (upd d.2.1.k (.ofNat j) C) := by
 have hu := unch_99 hC
 have hf : filt (unch (upd d.2.1.k (.ofNat j) C)) (stepT d T) = keepK d.2.1.k (Uf (unch C .a) (unch C .c) (ilt (O .c) 0)) := by
  rw [unch_upd _ _ h99, filt_step _ _ _ (upd_same _ _ _), <- keepK_filt, I.fl]
 have hr : rowsK d.2.1.k T = rowsK d.2.1.k (Uf (unch C .a) (unch C .c) (ilt (O .c) 0)) := by
  rw [<- I.fl, rowsK_filt hu]
 rw [hr]
 generalize hT : stepT d T = T' at *
 generalize d.2.1.k = k at *
 cases k with
 | b => rw [I.cb] at hC; cases hC
 | a =>
  have e1 : upd .a (.ofNat j) C .a = .ofNat j := rfl
  have e2 : upd .a (.ofNat j) C .b = C .b := rfl
  have e3 : upd .a (.ofNat j) C .c = C .c := rfl
  have u1 : unch (upd .a (.ofNat j) C) .a = false := unch_lt e1 h99
  have u3 : unch (upd .a (.ofNat j) C) .c = unch C .c := by unfold unch; rw [e3]
  refine ⟨⟨by rw [e2]; exact I.cb, .inr ⟨j, hj, by lia, e1⟩, by rw [e3]; exact I.mono.cc, fun e => ?_, ?_⟩, ?_⟩
  · rw [e1, e3] at e
    rcases I.cc with ⟨x, _⟩ | ⟨n, _, y, x⟩
    · rw [x] at e; exact absurd e (ofNat_ne99 h99)
    · rw [x] at e; have : j = n := Int.ofNat.inj e; lia
  · rw [hf, u1, u3, hu]
    cases unch C .c
    · rfl
    · cases ilt (O .c) 0 <;> rfl
  · unfold PC
    rw [u1, u3, hu, e1, e3]
    rcases I.cc with ⟨x, _⟩ | ⟨n, _, y, x⟩
    · rw [unch_99 x]
      cases ilt (O .c) 0 <;> rfl
    · rw [unch_lt x (by lia), x, blt_f y]; rfl
 | c =>
  have e1 : upd .c (.ofNat j) C .c = .ofNat j := rfl
  have e2 : upd .c (.ofNat j) C .b = C .b := rfl
  have e3 : upd .c (.ofNat j) C .a = C .a := rfl
  have u1 : unch (upd .c (.ofNat j) C) .c = false := unch_lt e1 h99
  have u3 : unch (upd .c (.ofNat j) C) .a = unch C .a := by unfold unch; rw [e3]
  refine ⟨⟨by rw [e2]; exact I.cb, by rw [e3]; exact I.mono.ca, .inr ⟨j, hj, by lia, e1⟩, fun e => ?_, ?_⟩, ?_⟩
  · rw [e1, e3] at e
    rcases I.ca with ⟨x, _⟩ | ⟨n, _, y, x⟩
    · rw [e3]; exact x
    · rw [x] at e; have : n = j := Int.ofNat.inj e; lia
  · rw [hf, u1, u3, hu]
    cases unch C .a
    · rfl
    · cases ilt (O .c) 0 <;> rfl
  · unfold PC
    rw [u1, u3, hu, e1, e3]
    rcases I.ca with ⟨x, _⟩ | ⟨n, _, y, x⟩
    · rw [unch_99 x]
      cases ilt (O .c) 0 <;> rfl
    · rw [unch_lt x (by lia), x, blt_t y]; rfl
theorem stored {j : Nat} {T : List Row} {C O : Kd -> Int} {d : Dr} (I : Inv j T C O) (hj : 1 <= j) (h99 : j < 99) (ho : d.1 = .st) (hr : rowsK d.2.1.k T = [d.2]) : Inv (j + 1) (stepT d T) C (upd d.2.1.k (.ofNat j) O) := by
 obtain ⟨o, p⟩ := d
 dsimp only at *
 subst ho
 cases hu : unch C p.1.k with
 | false =>
  have hf := filt_step (unch C) (.st, p) T hu
  have I2 := (I.withT hf).mono
  generalize p.1.k = k at *
  refine ⟨I2.cb, ?_, ?_, I2.ne, ?_⟩
  · rcases I2.ca with ⟨x, y⟩ | x
    · left
      refine ⟨x, ?_⟩
      have : keq .a k = false := by
       cases e : keq .a k with
       | false => rfl
       | true => rw [<- keq_iff.1 e, unch_99 x] at hu; cases hu
      rw [upd_other _ _ this]; exact y
    · exact .inr x
  · rcases I2.cc with ⟨x, y⟩ | x
    · left
      refine ⟨x, ?_⟩
      have : keq .c k = false := by
       cases e : keq .c k with
       | false => rfl
       | true => rw [<- keq_iff.1 e, unch_99 x] at hu; cases hu
      rw [upd_other _ _ this]; exact y
    · exact .inr x
  · rw [I2.fl]
    cases e : keq .c k with
    | false => rw [upd_other _ _ e]
    | true =>
     rw [<- keq_iff.1 e] at hu
     rw [hu]
     cases unch C .a <;> rfl
 | true =>
  rcases I.kind hj p.1.k with hC | ⟨n, hn, hC⟩
  · have hR : rowsK p.1.k (Uf (unch C .a) (unch C .c) (ilt (O .c) 0)) = [p] := by rw [<- I.fl, rowsK_filt hu, hr]
    have hS : filt (unch C) (stepT (.st, p) T) = keepK p.1.k (Uf (unch C .a) (unch C .c) (ilt (O .c) 0)) ++ [p] := by
     show filt (unch C) (keepK p.1.k T ++ [p]) = _
     rw [filt_app, filt_keepK, <- keepK_filt, I.fl, filt_t hu]; rfl
    generalize hT : stepT (.st, p) T = T' at *
    have hk : ∀ k, p.1.k = k -> Inv (j + 1) T' C (upd p.1.k (.ofNat j) O) := fun k e => by
     rw [e] at hR hS hu hC ⊢
     cases k with
     | b => rw [I.cb] at hC; cases hC
     | a =>
      rw [hu] at hR
      cases e1 : unch C .c <;> rw [e1] at hR
      · cases hR
      · cases e2 : ilt (O .c) 0 <;> rw [e2] at hR <;> cases hR
     | c =>
      have hp : p = rc := by
       rw [hu] at hR
       cases e1 : unch C .a <;> rw [e1] at hR
       · cases hR; rfl
       · cases e2 : ilt (O .c) 0 <;> rw [e2] at hR <;> cases hR <;> rfl
      refine ⟨I.cb, ?_, ?_, I.ne, ?_⟩
      · exact I.mono.ca
      · exact .inl ⟨hC, .inr ⟨j, by lia, rfl⟩⟩
      · have e0 : ilt (upd .c (.ofNat j) O .c) 0 = false := rfl
        rw [hS, hu, e0, hp]
        cases e1 : unch C .a
        · rfl
        · cases e2 : ilt (O .c) 0 <;> rfl
    exact hk _ rfl
  · rw [unch_lt hC (by lia)] at hu; cases hu
theorem step_inv {j : Nat} {T : List Row} {C O : Kd -> Int} (d : Dr) (I : Inv j T C O) (hj : 1 <= j) (h99 : j < 99) : Inv (j + 1) (stepT d T) (qC d j (NT T) C) (qO d j (NT T) O) /\ ∀ X, filt (unch C) (undo (wdT (uld T (stepT d T)) T) X) ++ PC C = filt (unch (qC d j (NT T) C)) X ++ PC (qC d j (NT T) C) := by
 rw [line_eq]
 cases ht : told (qT d (NT T)) with
 | true =>
  have eC : qC d j (NT T) C = upd d.2.1.k (imin (C d.2.1.k) j) C := by unfold qC; rw [ht]
  have eO : qO d j (NT T) O = O := by unfold qO; rw [ht]
  rw [eC, eO]
  rcases I.kind hj d.2.1.k with hC | ⟨n, hn, hC⟩
  · rw [hC, imin_99 h99]
    obtain ⟨a, b⟩ := first I hj h99 hC
    refine ⟨a, fun X => ?_⟩
    show filt (unch C) (keepK d.2.1.k X ++ rowsK d.2.1.k T) ++ PC C = _
    rw [filt_app, filt_keepK, <- unch_upd _ _ h99, filt_rowsK_t (unch_99 hC), List.append_assoc, b]
  · rw [hC, imin_lt hn, upd_id hC]
    have hu : unch C d.2.1.k = false := unch_lt hC (by lia)
    refine ⟨(I.withT (filt_step _ d T hu)).mono, fun X => ?_⟩
    show filt (unch C) (keepK d.2.1.k X ++ rowsK d.2.1.k T) ++ PC C = _
    rw [filt_app, filt_keepK, upd_id hu, filt_rowsK_f hu, List.append_nil]
 | false =>
  have eC : qC d j (NT T) C = C := by unfold qC; rw [ht]
  rw [eC]
  refine ⟨?_, fun X => rfl⟩
  rcases silent ht with ⟨ho, hr⟩ | ⟨ho, hr⟩
  · have eO : qO d j (NT T) O = upd d.2.1.k (.ofNat j) O := by unfold qO; rw [ht, ho]
    rw [eO]
    exact stored I hj h99 ho hr
  · have eO : qO d j (NT T) O = O := by unfold qO; rw [ht, ho]
    rw [eO]
    have : stepT d T = T := by unfold stepT; rw [ho]; exact keepK_id hr
    rw [this]
    exact I.mono
theorem undoL_snoc : ∀ (a : List (Option (Kd × List Row))) (o : Option (Kd × List Row)) (T : List Row), undoL (a ++ [o]) T = undo o (undoL a T)
 | [], o, T => rfl
 | x :: a, o, T => undoL_snoc a o (undo x T)
theorem back_cons (r : Nat) (l : List Nat) (T : List Row) : back (r :: l) T = undo (wdT (uld T (stepT (drOf r) T)) T) (back l (stepT (drOf r) T)) := by
 unfold back
 show undoL (wdT (uld T (stepT (drOf r) T)) T :: lineR l (stepT (drOf r) T)).reverse (tabs l (stepT (drOf r) T)) = _
 rw [List.reverse_cons, undoL_snoc]
theorem all_inv : ∀ (l : List Nat) (j : Nat) (T : List Row) (C O : Kd -> Int), Inv j T C O -> 1 <= j -> j + l.length <= 99 -> Inv (j + l.length) (tabs l T) (qCL l j (NT T) C) (qOL l j (NT T) O) /\ filt (unch C) (back l T) ++ PC C = filt (unch (qCL l j (NT T) C)) (tabs l T) ++ PC (qCL l j (NT T) C)
 | [], j, T, C, O, I, _, _ => ⟨I, rfl⟩
 | r :: l, j, T, C, O, I, hj, h => by
  rw [List.length_cons] at h
  obtain ⟨I1, e1⟩ := step_inv (drOf r) I hj (rm_0 ‹_›)
  obtain ⟨I2, e2⟩ := all_inv l (j + 1) _ _ _ I1 (Nat.le_succ_of_le ‹_›) (le_s ‹_›)
  refine ⟨?_, ?_⟩
  · show Inv (j + (l.length + 1)) (tabs l (stepT (drOf r) T)) (qCL l (j + 1) (qN (drOf r) (NT T)) (qC (drOf r) j (NT T) C)) (qOL l (j + 1) (qN (drOf r) (NT T)) (qO (drOf r) j (NT T) O))
    rw [qN_NT, show j + (l.length + 1) = j + 1 + l.length by lia]
    exact I2
  · rw [back_cons, e1]
    show _ = filt (unch (qCL l (j + 1) (qN (drOf r) (NT T)) (qC (drOf r) j (NT T) C))) (tabs l (stepT (drOf r) T)) ++ PC (qCL l (j + 1) (qN (drOf r) (NT T)) (qC (drOf r) j (NT T) C))
    rw [qN_NT]
    exact e2
noncomputable def T1 : List Row := [rA, rc, ra]
noncomputable def C1 : Kd -> Int := upd .b (.ofNat 0) C0
theorem drOf11 : drOf 11 = (.de, (.B, .e)) := by kernel_rfl!
theorem t1_eq : stepT (.de, (.B, .e)) T0 = T1 := rfl
theorem c1_eq : qC (.de, (.B, .e)) 0 N0 C0 = C1 := by
 funext k
 cases k <;> rfl
theorem o1_eq : qO (.de, (.B, .e)) 0 N0 O0 = O0 := by
 funext k
 cases k <;> rfl
theorem inv1 : Inv 1 T1 C1 O0 where
 cb := rfl
 ca := .inl ⟨rfl, rfl⟩
 cc := .inl ⟨rfl, .inl rfl⟩
 ne := fun ι => rfl
 fl := rfl
theorem filt_all : ∀ X : List Row, filt (fun ι => true) X = X
 | [] => rfl
 | r :: X => congrArg (r :: ·) (filt_all X)
theorem unch1 : unch C1 = upd .b false (fun ι => true) := by
 funext k
 cases k <;> rfl
theorem back11 (l : List Nat) : back (11 :: l) T0 = filt (unch C1) (back l T1) ++ PC C1 := by
 rw [back_cons, drOf11, t1_eq, unch1, <- keepK_filt, filt_all]
 rfl
theorem plaw (l : List Nat) (hl : l.length <= 6) : PLaw (11 :: l) where
 told := told_eq (11 :: l) T0
 due := by
  obtain ⟨I, e⟩ := all_inv l 1 T1 C1 O0 inv1 (Nat.le_refl _) (by lia)
  have eb : back (11 :: l) T0 = dueL (qCL l 1 (NT T1) C1 .a) (qCL l 1 (NT T1) C1 .c) (qOL l 1 (NT T1) O0 .c) := by
   rw [back11, e, due_UP, I.fl]
   rfl
  have hN : qN (.de, (.B, .e)) N0 = NT T1 := qN_NT (.de, (.B, .e)) T0
  have eC : qCL (11 :: l) 0 N0 C0 = qCL l 1 (NT T1) C1 := by
   show qCL l 1 (qN (drOf 11) N0) (qC (drOf 11) 0 N0 C0) = _
   rw [drOf11, c1_eq, hN]
  have eO : qOL (11 :: l) 0 N0 O0 = qOL l 1 (NT T1) O0 := by
   show qOL l 1 (qN (drOf 11) N0) (qO (drOf 11) 0 N0 O0) = _
   rw [drOf11, o1_eq, hN]
  rw [eC, eO, eb]
  generalize qCL l 1 (NT T1) C1 = C at *
  generalize qOL l 1 (NT T1) O0 = O at *
  refine ⟨C .a, C .c, O .a, O .b, O .c, ?_, rfl, fun B N D => ?_⟩
  · unfold intPe; rw [I.cb]
  · rcases I.ca with ⟨ha, hoa⟩ | ⟨n, n1, n2, ha⟩
    · rcases I.cc with ⟨hc, hoc | ⟨m, m1, hoc⟩⟩ | ⟨m, m1, m2, hc⟩
      · rw [ha, hc, hoa, hoc]; exact tl_01 B N D _
      · rw [ha, hc, hoa, hoc]; exact tl_00 B N D _ m (by lia)
      · rw [ha, hc, hoa]; exact tl_c B N D _ _ m m1 (by lia)
    · rcases I.cc with ⟨hc, _⟩ | ⟨m, m1, m2, hc⟩
      · rw [ha, hc]; exact tl_a B N D _ _ _ n n1 (by lia)
      · have hne : n ≠ m := fun x => by
         have := I.ne (by rw [ha, hc, x])
         rw [ha] at this
         exact ofNat_ne99 (by lia) this
        rw [ha, hc]; exact tl_ac B N D _ _ _ n m n1 (by lia) m1 (by lia) hne
theorem law_all (l : List Int) (hl : l.length <= 700) : ∃ σ, (up zA 36).call 947 [.dat (.list (intsI l))] [] [.junk] = some (.bool true, σ, true) :=
 law_true l hl (plaw _ (by rw [drawsOf_len]; exact List.length_take_le 6 l))
end
section
set_option maxRecDepth 100000
theorem k_bm (P : Params) : nsIn (kk.heap_1 P) mainGlobals (Zs "__builtins__") = some (some (.ref 4)) := by kernel_rfl!
theorem k_law (P : Params) : nsIn (kk.heap_1 P) mainGlobals (Zs "law") = some (some (.ref 947)) := by kernel_rfl!
theorem k_join (P : Params) : nsIn (kk.heap_1 P) mainGlobals (Zs "join") = some (some (.ref 908)) := by kernel_rfl!
theorem join_rec {V : Program} (h : ((recsOf V).any fun d => seq d.name (Zs "join")) = true) : ∃ d ∈ recsOf V, d.name = Zs "join" := by
 obtain ⟨d, m, e⟩ := List.any_eq_true.1 h
 exact ⟨d, m, seq_iff.1 e⟩
theorem look908 : nlook 908 TT.fns = some [fn908] := by kernel_rfl!
theorem pj_start {V : Program} (hV : ((recsOf V).any fun d => seq d.name (Zs "join")) = true) {P : Params} {h : Heap} {mg mb : Str -> Option Value} {loose : List Str} {mean : ExcName -> Option Value} (T : Top V loose mean mg mb h) (KX : (kk.heap_1 P).In h) : h.get? PJ = some (tabObj #[]) := by
 obtain ⟨d, m, hn⟩ := join_rec hV
 obtain ⟨a, o, fd, c, Q, h1, h2, h3, h4, _, h6, h7⟩ := T.tab d m
 rw [hn] at h1
 have e1 : (Value.ref a) = .ref 908 := Option.some.inj (h1.symm.trans (mg_of KX T.g (k_join P)))
 cases e1
 obtain ⟨oc, od, sl, e2⟩ := ((tok P).fn 908 [fn908] fn908 look908 (List.mem_singleton.2 rfl)).at_
 have e3 := Option.some.inj (h2.symm.trans (KX _ _ (dropPJ_lookup e2).1))
 rw [e3] at h3
 injection h3 with h3
 rw [<- h3] at h4
 have e4 : (Value.ref c) = .ref 907 := h4.symm
 cases e4
 obtain ⟨o', vs, g1, g2, g3, g4⟩ := h6
 obtain ⟨od', sl', vs', _, _, _, _, _, _, _, f1, _, f2, _⟩ := (jnK P).code
 have e5 := Option.some.inj (g1.symm.trans (KX _ _ (dropPJ_lookup f1).1))
 rw [e5] at g3
 injection g3 with g3
 rw [<- g3, f2] at g4
 have e6 : (Value.ref PJ) = .ref Q := Option.some.inj g4
 cases e6
 exact h7
theorem start {P : Params} {h : Heap} {mg mb : Str -> Option Value} {p : Program} {loose : List Str} {mean : ExcName -> Option Value} (T : Top p loose mean mg mb h) (KX : (kk.heap_1 P).In h) : Gd (KJ P) h where
 kin := fun a o e => KX a o (dropPJ_lookup e).1
 bns := ⟨mb, T.b, T.builtins⟩
 gns := ⟨mg, T.g⟩
 lim := T.nolimit
 smo := by
  obtain ⟨bm, ob, h1, h2, h3, h4, h5, h6⟩ := T.bmain
  have e := mg_of KX T.g (k_bm P)
  have e1 : (Value.ref bm) = .ref 4 := Option.some.inj (h1.symm.trans e)
  cases e1
  exact ⟨ob, h3, h4, h5, h6⟩
theorem frs_ints (F : Fz) : ∀ {vs : List Value} {l : List Int}, IntsAre vs l -> FRs F (intsI l) vs
 | _, _, .nil => .nil
 | _, _, .cons n t r => .cons (.int n t) (frs_ints F r)
theorem snd_law (P : Params) {prog : Program} {w : World} (hw : w.params = P) : Snd (KJ P) prog w 152 (up zA 36) := SndAll.up (by decide) zA_snd 36 P hw
theorem room : Room 152 callerA := ⟨by decide, by decide, rfl⟩
theorem law_walk {P : Params} {prog : Program} {w : World} (hw : w.params = P) {s : Shared} {a : Addr} {vs : List Value} {l : List Int} (G : Gd (KJ P) s.heap) (hpj : s.heap.get? PJ = some (tabObj #[])) (ha : s.heap.get? a = some { cls := .type "list", data := .seq vs.toArray }) (hi : IntsAre vs l) (hl : l.length <= 700) (Q : Result -> Shared -> Prop)
 (q : ∀ s', (∀ b o, s.heap.get? b = some o -> b ≠ PJ -> s'.heap.get? b = some o) -> (∃ more, s'.heap.get? PJ = some (tabObj (#[] ++ more))) -> Gs s s' -> Q (.ok (.ret (.bool true))) s') : codeAny (model prog w) callerA (.call (.ref 947) ⟨[.ref a], []⟩) Q s := by
 obtain ⟨σ, e⟩ := law_all l hl
 have hne : a ≠ PJ := fun x => by
  rw [x, hpj] at ha
  injection ha with ha
  injection ha with h1
  cases h1
 let F : Fz := fun b => match Nat.beq b a with | true => some { cls := .type "list", data := .seq vs.toArray } | false => none
 have hFa : F a = some { cls := .type "list", data := .seq vs.toArray } := by
  show (match Nat.beq a a with | true => _ | false => none) = _
  rw [Nat.beq_refl]
 have hF : FSub F s.heap.get? := fun b o eb => by
  have eb : (match Nat.beq b a with | true => some { cls := .type "list", data := .seq vs.toArray } | false => none) = some o := eb
  cases hb : Nat.beq b a with
  | true =>
   rw [hb] at eb
   rw [Nat.eq_of_beq_eq_true hb, ha]
   exact eb
  | false => rw [hb] at eb; cases eb
 have R : Rl (KJ P) [.junk] ⟨[PJ], F, fun ι => none, []⟩ s.heap := by
  have one : ∀ {i : Nat} {o : AO}, nth [AO.junk] i = some o -> o = .junk := fun {i o} x => by
   cases i with
   | zero => cases x; rfl
   | succ i => cases x
  refine ⟨G, rfl, fun i j a o p ι ι x ι y ι => ?_, fun i a o ι x y => ?_, fun i a o ι x => ?_, hF, fun ι ι x => (nomatch x), fun i a o ι x y => ?_, fun ι ι x => (nomatch x), ⟨#[], hpj, trivial⟩, fun ι x => (nomatch x), ⟨?_, rfl⟩⟩
  · rw [one x] at y; cases y
  · rw [one x] at y; cases y
  · rw [one x]; exact .junk
  · rw [one x] at y; cases y
  · show (match Nat.beq PJ a with | true => _ | false => none) = _
    cases hb : Nat.beq PJ a with
    | true => exact absurd (Nat.eq_of_beq_eq_true hb).symm hne
    | false => rfl
 have V : VRs ⟨[PJ], F, fun ι => none, []⟩ [.dat (.list (intsI l))] [.ref a] := .cons (FR.list hFa (frs_ints F hi)) .nil
 refine (snd_law P hw).call e R V .nil ⟨[], rfl, fun ι m => (nomatch m)⟩ room Q fun ρ' s' u R' X G' V' => ?_
 obtain ⟨x, rfl, hx⟩ := V'
 cases (show x = .bool true from hx)
 exact q s' (fun b o eb nb => X.keep b o eb (fun m => nb (List.mem_singleton.1 m)) nb) (X.tab #[] hpj) G'
end
set_option tactic.hygienic true
section
set_option maxRecDepth 100000
theorem well_list {P : Params} {h : Heap} {a : Addr} {xs : List PyData} {vs : List Value} (w : Well P h (.ref a) (ofPy (.list xs))) (L : h.IsList a vs.toArray) : h.get? a = some { cls := .type "list", data := .seq vs.toArray } := by
 rw [show ofPy (.list xs) = .list (ofPys xs) by simp [ofPy]] at w
 cases w with
 | list e _ =>
  obtain ⟨o, e1, _, n, e3⟩ := L
  have e2 := e1.symm.trans e
  injection e2 with e2
  rw [e2] at e3
  injection e3 with h1 h2
  rw [e, h1]
theorem code_tab (P : Params) : ∃ o vs, (kk.heap_1 P).lookup 907 = some o /\ o.cls = .type "code" /\ o.data = .fields vs /\ vs[11]? = some (.ref PJ) := by
 obtain ⟨od, sl, vs, _, _, _, _, _, _, _, e, _, e2, _⟩ := (jnK P).code
 exact ⟨_, vs, (dropPJ_lookup e).1, rfl, rfl, e2⟩
set_option maxHeartbeats 8000000 in
theorem holds : PySem.Challenge.rw_of0116_01.Holds := by
 w_on
 refine said fun said' => ?_
 refine holds_open (q := vw) (loose := loose) (Xt := xt) (XP := XL vw []) (Yf := HK.obs) (Ya := HK.val) (YP := HK.says) (d := dLaw.1) (kwd := dLaw.2) (N := 12336) left HK.of HK.keeps (fun s e => xl_of s (Bool.and_eq_true_iff.mp e).1) XL.keeps (by kernel_rfl) (by kernel_rfl) (by kernel_rfl) (fun s e => recFacts_of (Bool.and_eq_true_iff.mp e).2) (by kernel_rfl) said' (by decide +kernel) ⟨rfl, rfl, rfl, rfl, rfl, by decide +kernel⟩ ?hw ?hc
 case hw => w_witness2
 intro w s₀ s₁ mg mb G Y fa o pm cd doc dV kV ho hdt hcd hD hmg hg args vals as hpre hlay hrd hwl hlo
 have KX : (kk.heap_1 w.params).In s₁.heap := kIn_of Y
 have T := G.T
 have e := mg_of KX T.g (k_law w.params)
 have efa : (Value.ref fa) = .ref 947 := Option.some.inj (hmg.symm.trans e)
 have hpj := pj_start (by kernel_rfl!) T KX
 have hst := start T KX
 clear hmg ho hdt hcd hD Y G e T
 cases efa
 wrow_args hpre hlay hrd hwl hlo
 rename_i ws _ _ _ _ _ _ _ a vs _ hL _ w1 _ hI _ hlen _
 refine enter_call ?_
 obtain ⟨co, cvs, c1, c2, c3, c4⟩ := code_tab w.params
 refine law_walk rfl hst hpj (well_list w1 hL) hI (by omega) _ fun s' k t g => ⟨.inl ⟨.bool true, .bool true, [], rfl, fun ι => rfl, .bool true, by kernel_rfl!, fun ι => ⟨List.nodup_nil, nofun⟩⟩, ⟨fun b o e => ?_, fun b o e => ?_⟩, g.os, g.gb (.of_eq hg)⟩
 · by_cases hb : b = PJ
   · subst hb
     obtain ⟨more, t⟩ := t
     have eo : o = tabObj #[] := Option.some.inj (e.symm.trans hpj)
     subst eo
     exact .inr (.inl ⟨⟨907, co, cvs, KX _ _ c1, c2, c3, c4⟩, rfl, #[], more, rfl, t⟩)
   · exact .inl (k b o e hb)
 · by_cases hb : b = PJ
   · subst hb
     obtain ⟨more, t⟩ := t
     exact ⟨_, t⟩
   · exact ⟨o, k b o e hb⟩
end
end Mine
theorem PySem.Challenge.cw_of0116_01_holds : PySem.Challenge.rw_of0116_01.Holds :=
 Mine.holds
