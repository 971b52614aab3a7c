import PyProof.Rows.All
import Wide.All
import OpenK.AllK
import Wide.FinOn
import Lean
import PySem.Challenge.RW_tp0032_01
set_option Elab.async false
set_option linter.all false
set_option maxRecDepth 100000
set_option compiler.extract_closed false
namespace Mine
section
open PySem PySem.W PySem.Calls PyProof.Rows
noncomputable abbrev pw : Program := PySem.Challenge.pw_tp0032_01
noncomputable def stmtAt (p : Program) (i : Nat) : Stmt := (p.main.body[i]?).getD (.Pass ⟨0, 0, 0, 0⟩)
noncomputable def Y0 : Stmt := by
  refine (?f : ∀ a : Stmt, stmtAt pw 0 = a → Stmt) _ (by conv => lhs; whnf)
  exact fun a _ => a
noncomputable def Y1 : Stmt := by
  refine (?f : ∀ a : Stmt, stmtAt pw 1 = a → Stmt) _ (by conv => lhs; whnf)
  exact fun a _ => a
noncomputable def Y2 : Stmt := by
  refine (?f : ∀ a : Stmt, stmtAt pw 2 = a → Stmt) _ (by conv => lhs; whnf)
  exact fun a _ => a
noncomputable def Y3 : Stmt := by
  refine (?f : ∀ a : Stmt, stmtAt pw 3 = a → Stmt) _ (by conv => lhs; whnf)
  exact fun a _ => a
noncomputable def Y4 : Stmt := by
  refine (?f : ∀ a : Stmt, stmtAt pw 4 = a → Stmt) _ (by conv => lhs; whnf)
  exact fun a _ => a
noncomputable def Y5 : Stmt := by
  refine (?f : ∀ a : Stmt, stmtAt pw 5 = a → Stmt) _ (by conv => lhs; whnf)
  exact fun a _ => a
noncomputable def Y6 : Stmt := by
  refine (?f : ∀ a : Stmt, stmtAt pw 6 = a → Stmt) _ (by conv => lhs; whnf)
  exact fun a _ => a
noncomputable def Y7 : Stmt := by
  refine (?f : ∀ a : Stmt, stmtAt pw 7 = a → Stmt) _ (by conv => lhs; whnf)
  exact fun a _ => a
noncomputable def Y9 : Stmt := by
  refine (?f : ∀ a : Stmt, stmtAt pw 9 = a → Stmt) _ (by conv => lhs; whnf)
  exact fun a _ => a
noncomputable def Y10 : Stmt := by
  refine (?f : ∀ a : Stmt, stmtAt pw 10 = a → Stmt) _ (by conv => lhs; whnf)
  exact fun a _ => a
noncomputable def Y11 : Stmt := by
  refine (?f : ∀ a : Stmt, stmtAt pw 11 = a → Stmt) _ (by conv => lhs; whnf)
  exact fun a _ => a
noncomputable def Y12 : Stmt := by
  refine (?f : ∀ a : Stmt, stmtAt pw 12 = a → Stmt) _ (by conv => lhs; whnf)
  exact fun a _ => a
noncomputable def Y13 : Stmt := by
  refine (?f : ∀ a : Stmt, stmtAt pw 13 = a → Stmt) _ (by conv => lhs; whnf)
  exact fun a _ => a
noncomputable def Y14 : Stmt := by
  refine (?f : ∀ a : Stmt, stmtAt pw 14 = a → Stmt) _ (by conv => lhs; whnf)
  exact fun a _ => a
noncomputable def Y15 : Stmt := by
  refine (?f : ∀ a : Stmt, stmtAt pw 15 = a → Stmt) _ (by conv => lhs; whnf)
  exact fun a _ => a
noncomputable def Y16 : Stmt := by
  refine (?f : ∀ a : Stmt, stmtAt pw 16 = a → Stmt) _ (by conv => lhs; whnf)
  exact fun a _ => a
noncomputable def Y17 : Stmt := by
  refine (?f : ∀ a : Stmt, stmtAt pw 17 = a → Stmt) _ (by conv => lhs; whnf)
  exact fun a _ => a
noncomputable def Y18 : Stmt := by
  refine (?f : ∀ a : Stmt, stmtAt pw 18 = a → Stmt) _ (by conv => lhs; whnf)
  exact fun a _ => a
noncomputable def Y19 : Stmt := by
  refine (?f : ∀ a : Stmt, stmtAt pw 19 = a → Stmt) _ (by conv => lhs; whnf)
  exact fun a _ => a
noncomputable def Y20 : Stmt := by
  refine (?f : ∀ a : Stmt, stmtAt pw 20 = a → Stmt) _ (by conv => lhs; whnf)
  exact fun a _ => a
noncomputable def Y21 : Stmt := by
  refine (?f : ∀ a : Stmt, stmtAt pw 21 = a → Stmt) _ (by conv => lhs; whnf)
  exact fun a _ => a
noncomputable def YS : Scope := by
  refine (?f : ∀ a : Scope, pw.main.scope = a → Scope) _ (by conv => lhs; whnf)
  exact fun a _ => a
/-- the library's tactic lays the statements' twins -/
noncomputable def laidS (_ : List Stmt) (_ : Scope) : Bool := true
theorem lay_y : laidS [Y0, Y1, Y2, Y3, Y4, Y5, Y6, Y7, Y9, Y10, Y11, Y12, Y13, Y14, Y15, Y16, Y17, Y18, Y19, Y20, Y21] YS = true := by k_qdec
noncomputable def mkS (l : List Nat) : Str := ⟨⟨l⟩⟩
noncomputable def dKeys : Stmt → List (Option PySem.Expr) | .Assign _ (.Dict ks _ _) _ => ks | _ => []
noncomputable def dVals : Stmt → List PySem.Expr | .Assign _ (.Dict _ vs _) _ => vs | _ => []
noncomputable def Y8 (nm : Str) : Stmt := .Assign [.Name nm ⟨59, 0, 59, 13⟩] (.Dict (dKeys (stmtAt pw 8)) (dVals (stmtAt pw 8)) ⟨59, 16, 59, 8704⟩) ⟨59, 0, 59, 8704⟩
noncomputable def pq : Program := { pw with main := ⟨[PySem.W.Fast.tw5742147717299809363, PySem.W.Fast.tw6060022426563787493, PySem.W.Fast.tw13295183271112924430, PySem.W.Fast.tw2649198357424677697, PySem.W.Fast.tw16649891124479699660, PySem.W.Fast.tw2317510309744053037, PySem.W.Fast.tw12124026261507511165, PySem.W.Fast.tw4759134780109542404, Y8 (mkS [98,51,95,101,120,99,101,112,116,105,111,110,115]), PySem.W.Fast.tw6848183922751812935, PySem.W.Fast.tw5263051357258225323, PySem.W.Fast.tw14314897124006108262, PySem.W.Fast.tw15762059435387591200, PySem.W.Fast.tw12928900535886416565, PySem.W.Fast.tw3231293782576780476, PySem.W.Fast.tw15737177896260694451, PySem.W.Fast.tw16255534092624536662, PySem.W.Fast.tw7237172955701719315, PySem.W.Fast.tw3448454315675331410, PySem.W.Fast.tw7574720888262367209, PySem.W.Fast.tw6787560422873661513, PySem.W.Fast.tw10135070396708600877], PySem.W.Fast.tw548617307414945006, false, mkS [47,99,108,97,105,109,47,99,117,116,46,112,121], []⟩ }
noncomputable def pm : Program := { pw with main := ⟨[Y0, Y1, Y2, Y3, Y4, Y5, Y6, Y7, Y8 (Str.ofString "b3_exceptions"), Y9, Y10, Y11, Y12, Y13, Y14, Y15, Y16, Y17, Y18, Y19, Y20, Y21], YS, false, Str.ofString "/claim/cut.py", []⟩ }
theorem pw_pm : pw = pm := by kernel_rfl
theorem pw_pq : pw = pq := by
  have a : Str.ofString "/claim/cut.py" = mkS [47,99,108,97,105,109,47,99,117,116,46,112,121] := PySem.W.Fast.ofString_ofList ['/', 'c', 'l', 'a', 'i', 'm', '/', 'c', 'u', 't', '.', 'p', 'y']
  have b : Str.ofString "b3_exceptions" = mkS [98,51,95,101,120,99,101,112,116,105,111,110,115] := PySem.W.Fast.ofString_ofList ['b', '3', '_', 'e', 'x', 'c', 'e', 'p', 't', 'i', 'o', 'n', 's']
  rw [pw_pm]
  unfold pm pq
  rw [a, b, PySem.W.Fast.te5742147717299809363, PySem.W.Fast.te6060022426563787493, PySem.W.Fast.te13295183271112924430, PySem.W.Fast.te2649198357424677697, PySem.W.Fast.te16649891124479699660, PySem.W.Fast.te2317510309744053037, PySem.W.Fast.te12124026261507511165, PySem.W.Fast.te4759134780109542404, PySem.W.Fast.te6848183922751812935, PySem.W.Fast.te5263051357258225323, PySem.W.Fast.te14314897124006108262, PySem.W.Fast.te15762059435387591200, PySem.W.Fast.te12928900535886416565, PySem.W.Fast.te3231293782576780476, PySem.W.Fast.te15737177896260694451, PySem.W.Fast.te16255534092624536662, PySem.W.Fast.te7237172955701719315, PySem.W.Fast.te3448454315675331410, PySem.W.Fast.te7574720888262367209, PySem.W.Fast.te6787560422873661513, PySem.W.Fast.te10135070396708600877, PySem.W.Fast.te548617307414945006]
noncomputable def fa : Stmt → Arguments | .FunctionDef _ a _ _ _ _ _ _ _ _ => a | _ => default
noncomputable def fb : Stmt → List Stmt | .FunctionDef _ _ b _ _ _ _ _ _ _ => b | _ => []
noncomputable def fs : Stmt → Scope | .FunctionDef _ _ _ _ _ _ s _ _ _ => s | _ => default
noncomputable def kInt : Option PySem.Expr → Int | some (.Constant (.int i) _ _) => i | _ => 0
noncomputable def vStr : PySem.Expr → Str | .Constant (.str s) _ _ => s | _ => ⟨⟨[]⟩⟩
noncomputable def mkE : Nat → Nat → List (Option PySem.Expr) → List PySem.Expr → List DictEntry
  | 0, t, k :: ks, v :: vs => ⟨kInt k, .int (kInt k) t, .str (vStr v) (t + 1)⟩ :: mkE 0 (t + 2) ks vs
  | n + 1, t, k :: ks, v :: vs => ⟨kInt k, .int (kInt k) t, .str (vStr v) (t + 1)⟩ :: mkE n (t + 3) ks vs
  | _, _, _, _ => []
noncomputable def dE (p : Program) : List DictEntry := mkE 646 307 (dKeys (stmtAt p 8)) (dVals (stmtAt p 8))
noncomputable def envT (p : Program) : Env := { scope := p.main.scope, locals := mainNs, globals := mainNs, cells := [], code := .ref 13, frame := some 14 }
noncomputable def codT (p : Program) : Code := .body (behindTheImports p) (envT p)
noncomputable abbrev noPos : Pos := ⟨0, 0, 0, 0⟩
noncomputable abbrev topB : List Frame := [topFrame noPos]
noncomputable abbrev annT : Option Value := some (.ref 6)
noncomputable abbrev twSeg := PySem.W.Fast.tw10110043849684766642
noncomputable abbrev twTab := PySem.W.Fast.tw14364793385576792824
noncomputable abbrev twExecs := PySem.W.Fast.tw12563942051412417395
/-- a statement's tree runs from one laid-out state to the other (over the library's quick twins) -/
noncomputable abbrev RunE (w : World) (n : Nat) (S : SharedT) (p : Pos) (x : Sem Flow) (S' : SharedT) (p' : Pos) (f : Flow) : Prop :=
  twSeg twTab pq w 11 annT 1 n S ⟨x.wrap doneF deadEnd id id, codT pq, p, topB⟩ = some (f, S', codT pq, p')
noncomputable abbrev SV := Option Addr × List (Sem Value × Sem Value)
noncomputable def IT {X σ : Type} (body : X → σ → Sem (ForInStep σ)) : List X → σ → Sem σ
  | [], st => .pure st
  | x :: l, st => (body x st).bind fun | .done b => .pure b | .yield b => IT body l b
noncomputable def LS {X σ : Type} (body : X → σ → Sem (ForInStep σ)) : List X → σ → Sem (ForInStep σ)
  | [], st => .pure (.yield st)
  | x :: l, st => (body x st).bind fun | .done b => .pure (.done b) | .yield b => LS body l b
theorem forIn_IT {X σ : Type} (body : X → σ → Sem (ForInStep σ)) : ∀ (l : List X) (st : σ), (forIn l st body : Sem σ) = IT body l st
  | [], st => rfl
  | x :: l, st => by
    rw [List.forIn_cons]
    show Sem.bind _ _ = Sem.bind _ _
    congr 1
    funext r
    cases r with
    | done b => rfl
    | yield b => exact forIn_IT body l b
theorem IT_app {X σ : Type} (body : X → σ → Sem (ForInStep σ)) : ∀ (l1 l2 : List X) (st : σ), IT body (l1 ++ l2) st = (LS body l1 st).bind fun | .done b => .pure b | .yield b => IT body l2 b
  | [], l2, st => rfl
  | x :: l, l2, st => by
    show Sem.bind _ _ = Sem.bind (Sem.bind _ _) _
    rw [PySem.Sem.bind_assoc]
    congr 1
    funext r
    cases r with
    | done b => rfl
    | yield b => exact IT_app body l l2 b
noncomputable abbrev dpos : Pos := ⟨59, 16, 59, 8704⟩
noncomputable abbrev RunG (w : World) (n : Nat) (S : SharedT) (p : Pos) (x : Sem Fin) (S' : SharedT) (p' : Pos) (f : Flow) : Prop :=
  twSeg twTab pq w 11 annT 1 n S ⟨x, codT pq, p, topB⟩ = some (f, S', codT pq, p')
/- a small big-step reading of the trees that only look and write (no call, no alloc) -/
inductive SR : {α : Type} → SharedT → Sem α → Nat → SharedT → α → Prop
  | pure {α : Type} {S : SharedT} {a : α} : SR S (.pure a) 0 S a
  | rule {α : Type} {S S' : SharedT} {t : String} {k : Unit → Sem α} {n : Nat} {b : α} : SR S (k ()) n S' b → SR S (.rule t k) (n + 1) S' b
  | load {α : Type} {S S' : SharedT} {a : Addr} {q : Option Value} {k : Obj → Sem α} {n : Nat} {b : α} {o : Obj} : Nat.blt a S.n = true → S.tree.get a = some o → PySem.W.alive o = some o → SR S (k o) n S' b → SR S (.load a q k) (n + 1) S' b
  | upd {α : Type} {S S' : SharedT} {a : Addr} {q : Option Value} {f : Obj → Obj} {k : Unit → Sem α} {n : Nat} {b : α} {o : Obj} : Nat.blt a S.n = true → S.tree.get a = some o → PySem.W.alive o = some o → Nat.ble 11 a = true →
      SR { S with tree := S.tree.set a f } (k ()) n S' b → SR S (.update a q f k) (n + 1) S' b
theorem SR.bind {α β : Type} {S S₁ S₂ : SharedT} {x : Sem α} {f : α → Sem β} {n m : Nat} {a : α} {b : β} (h : SR S x n S₁ a) (k : SR S₁ (f a) m S₂ b) : SR S (x.bind f) (n + m) S₂ b := by
  induction h with
  | pure => rw [Nat.zero_add]; exact k
  | rule _ ih => rw [Nat.add_right_comm]; exact .rule (ih k)
  | load h1 h2 h3 _ ih => rw [Nat.add_right_comm]; exact .load h1 h2 h3 (ih k)
  | upd h1 h2 h3 h4 _ ih => rw [Nat.add_right_comm]; exact .upd h1 h2 h3 h4 (ih k)
theorem SR.keep {α : Type} {S S₁ : SharedT} {x : Sem α} {n : Nat} {a : α} (vs : List Value) (h : SR S x n S₁ a) : SR S (x.keep vs) n S₁ a := by
  induction h with
  | pure => exact .pure
  | rule _ ih => exact .rule ih
  | load h1 h2 h3 _ ih => exact .load h1 h2 h3 ih
  | upd h1 h2 h3 h4 _ ih => exact .upd h1 h2 h3 h4 ih
theorem SR.holding {α : Type} {S S₁ : SharedT} {x : Sem α} {n : Nat} {a : α} (vs : List Value) (h : SR S x n S₁ a) : SR S (PySem.holding vs x) n S₁ a := by
  unfold PySem.holding
  split
  · exact h
  · exact h.keep _
theorem SR.onRaise {α : Type} {S S₁ : SharedT} {x : Sem α} {n : Nat} {a : α} (g : Value → Sem Unit) (h : SR S x n S₁ a) : SR S (x.onRaise g) n S₁ a := by
  induction h with
  | pure => exact .pure
  | rule _ ih => exact .rule ih
  | load h1 h2 h3 _ ih => exact .load h1 h2 h3 ih
  | upd h1 h2 h3 h4 _ ih => exact .upd h1 h2 h3 h4 ih
theorem SR.eq {α : Type} {S S₁ : SharedT} {x y : Sem α} {n : Nat} {a : α} (e : y = x) (h : SR S x n S₁ a) : SR S y n S₁ a := e ▸ h

theorem set_set (f g : Obj → Obj) : ∀ (t : BT) (a : Nat), (t.set a f).set a g = t.set a fun o => g (f o)
  | .nil, _ => rfl
  | .node v l r, a => by
    rw [BT.set_node, BT.set_node]
    by_cases h0 : a = 0
    · rw [if_pos h0, if_pos h0, BT.set_node, if_pos h0]
    · rw [if_neg h0, if_neg h0]
      by_cases h1 : a % 2 = 1
      · rw [if_pos h1, if_pos h1, BT.set_node, if_neg h0, if_pos h1, set_set f g l]
      · rw [if_neg h1, if_neg h1, BT.set_node, if_neg h0, if_neg h1, set_set f g r]
theorem set_ins {f : Obj → Obj} {o : Obj} : ∀ (t : BT) (a : Nat), t.get a = some o → t.set a f = t.ins a (f o)
  | .nil, _, h => by cases h
  | .node v l r, a, h => by
    rw [BT.get_node] at h
    rw [BT.set_node, BT.ins_node]
    by_cases h0 : a = 0
    · rw [if_pos h0] at h ⊢
      rw [if_pos h0]
      cases h; rfl
    · rw [if_neg h0] at h ⊢
      rw [if_neg h0]
      by_cases h1 : a % 2 = 1
      · rw [if_pos h1] at h ⊢
        rw [if_pos h1, set_ins l _ h]
      · rw [if_neg h1] at h ⊢
        rw [if_neg h1, set_ins r _ h]
theorem set_id {o : Obj} : ∀ (t : BT) (a : Nat), t.get a = some o → t.ins a o = t
  | .nil, _, h => by cases h
  | .node v l r, a, h => by
    rw [BT.get_node] at h
    rw [BT.ins_node]
    by_cases h0 : a = 0
    · rw [if_pos h0] at h ⊢
      cases h; rfl
    · rw [if_neg h0] at h ⊢
      by_cases h1 : a % 2 = 1
      · rw [if_pos h1] at h ⊢
        rw [set_id l _ h]
      · rw [if_neg h1] at h ⊢
        rw [set_id r _ h]
theorem ins_ins (o o' : Obj) : ∀ (t : BT) (a : Nat), (t.get a).isSome = true → (t.ins a o).ins a o' = t.ins a o'
  | .nil, _, h => by cases h
  | .node v l r, a, h => by
    rw [BT.get_node] at h
    rw [BT.ins_node, BT.ins_node]
    by_cases h0 : a = 0
    · rw [if_pos h0, if_pos h0, BT.ins_node, if_pos h0]
    · rw [if_neg h0] at h
      rw [if_neg h0, if_neg h0]
      by_cases h1 : a % 2 = 1
      · rw [if_pos h1] at h
        rw [if_pos h1, if_pos h1, BT.ins_node, if_neg h0, if_pos h1, ins_ins o o' l _ h]
      · rw [if_neg h1] at h
        rw [if_neg h1, if_neg h1, BT.ins_node, if_neg h0, if_neg h1, ins_ins o o' r _ h]

noncomputable def dictO (l : List DictEntry) (n : Nat) : Obj := ⟨.type "dict", none, .dict ⟨l⟩ n, ⟨[]⟩⟩
theorem alive_dict (l : List DictEntry) (n : Nat) : PySem.W.alive (dictO l n) = some (dictO l n) := rfl
/-- an entry whose key is an int that is its own hash -/
noncomputable def IntE (e : DictEntry) : Prop := ∃ k t v, e = ⟨k, .int k t, v⟩

theorem places_none {l : List DictEntry} {h : Int} (hn : ∀ e ∈ l, e.hash ≠ h) : placesWithHash (Array.mk l).size (fun i => (Array.mk l)[i]?.map (·.hash)) h = [] := by
  unfold placesWithHash
  rw [List.filter_eq_nil_iff]
  intro i hi
  have hi' : i < l.length := by simpa using hi
  have e : (Array.mk l)[i]? = some (l[i]) := by simp [List.getElem?_eq_getElem hi']
  show ¬ ((Option.map (fun x => DictEntry.hash x) (Array.mk l)[i]?) == some h) = true
  rw [e]
  simp only [Option.map_some, beq_iff_eq, Option.some.injEq]
  exact hn _ (List.getElem_mem hi')
section
variable {S : SharedT} {d a : Addr} {es l : List DictEntry} {n m : Nat}
theorem entries_SR {q : Option Value} (bd : Nat.blt d S.n = true) (gd : S.tree.get d = some (dictO es n)) : SR S (dictEntries d q) 1 S (Array.mk es) := .load bd gd (alive_dict _ _) .pure
theorem epoch_SR {q : Option Value} (bd : Nat.blt d S.n = true) (gd : S.tree.get d = some (dictO es n)) : SR S (dictEpoch d q) 1 S n := .load bd gd (alive_dict _ _) .pure
theorem find_SR {k : Int} {t : Tok} (bd : Nat.blt d S.n = true) (gd : S.tree.get d = some (dictO es n)) (hn : ∀ e ∈ es, e.hash ≠ k) : SR S (dictFind d (.int k t) k) 1 S none := by
  unfold dictFind
  refine SR.holding _ (SR.bind (n := 1) (m := 0) (entries_SR bd gd) ?_)
  rw [places_none hn]
  exact .pure
theorem put_SR {k : Int} {t : Tok} {v : Value} (bd : Nat.blt d S.n = true) (gd : S.tree.get d = some (dictO es n)) (hn : ∀ e ∈ es, e.hash ≠ k) (h11 : Nat.ble 11 d = true) (hl : es.length < 1000) :
    SR S (dictPut d k (.int k t) v) 4 { S with tree := S.tree.ins d (dictO (es ++ [⟨k, .int k t, v⟩]) (n + 1)) } () := by
  unfold dictPut
  refine SR.bind (n := 1) (m := 3) (find_SR bd gd hn) ?_
  show SR S (updateDictKeys d _) 3 _ ()
  unfold updateDictKeys
  have eo : Obj.mapDictKeys (fun x => x.push ⟨k, .int k t, v⟩) (dictO es n) = dictO (es ++ [⟨k, .int k t, v⟩]) (n + 1) := by
    unfold dictO Obj.mapDictKeys
    simp
  have g' : (S.tree.set d (Obj.mapDictKeys fun x => x.push ⟨k, .int k t, v⟩)).get d = some (dictO (es ++ [⟨k, .int k t, v⟩]) (n + 1)) := by
    rw [BT.get_set, if_pos rfl, gd, Option.map_some, eo]
  have es' : S.tree.set d (Obj.mapDictKeys fun x => x.push ⟨k, .int k t, v⟩) = S.tree.ins d (dictO (es ++ [⟨k, .int k t, v⟩]) (n + 1)) := by
    rw [set_ins _ _ gd, eo]
  refine .load bd gd (alive_dict _ _) ?_
  refine .upd bd gd (alive_dict _ _) h11 ?_
  refine .load bd g' (alive_dict _ _) ?_
  rw [← es']
  have hp : (dictO (es ++ [⟨k, .int k t, v⟩]) (n + 1)).data.pastItsLine = none := by
    unfold dictO Data.pastItsLine
    simp only [List.size_toArray]
    split <;> rename_i q <;> first | rfl | (exfalso; have : sizeLine = 2 ^ 24 := rfl; simp [this] at q; omega)
  simp only [Sem.bind, hp]
  exact .pure
end
theorem get_insK {T : BT} {d i : Nat} {o o' : Obj} (g : T.get d = some o) : (T.ins d o').get i = if i = d then some o' else T.get i := by
  rw [← set_ins (f := fun _ => o') T d g, BT.get_set, g]
  rfl
section
variable {S : SharedT} {d a : Addr} {es l : List DictEntry} {n m : Nat}
noncomputable def stK (S : SharedT) (d : Addr) (es l : List DictEntry) (n k : Nat) : SharedT := { S with tree := S.tree.ins d (dictO (es ++ l.take k) (n + k)) }
theorem loop_SR {body : Nat → PUnit → Sem (ForInStep PUnit)} {st : Nat → SharedT} {N c : Nat} (ht : ∀ k, k < N → SR (st k) (body k ⟨⟩) c (st (k + 1)) (.yield ⟨⟩)) :
    ∀ r k, k + r = N → SR (st k) (IT body (List.range' k r) ⟨⟩) (c * r) (st N) ⟨⟩
  | 0, k, h => by subst h; exact .pure
  | r + 1, k, h => by
    rw [List.range'_succ, show c * (r + 1) = c + c * r by rw [Nat.mul_succ, Nat.add_comm]]
    exact SR.bind (ht k (by omega)) (loop_SR ht r (k + 1) (by omega))
theorem isDict_SR (ba : Nat.blt a S.n = true) (ga : S.tree.get a = some (dictO l m)) : SR S (isInstance (.ref a) (.type "dict")) 1 S true := by
  unfold isInstance
  refine SR.bind (n := 1) (m := 0) (a := .type "dict") (.load ba ga (alive_dict _ _) .pure) ?_
  rw [isSubtype_type]
  exact SR.eq (by kernel_rfl) .pure
theorem iterOf_SR (ba : Nat.blt a S.n = true) (ga : S.tree.get a = some (dictO l m)) : SR S (specialOf (.ref a) (Str.ofString "__iter__")) 1 S (some (.builtin "dict.__iter__")) := by
  unfold specialOf
  refine SR.bind (n := 1) (m := 0) (a := .type "dict") (.load ba ga (alive_dict _ _) .pure) ?_
  rw [typeLookup_type, builtinLookup_eq_fast]
  exact SR.eq (by kernel_rfl) .pure
theorem merge_SR (bd : Nat.blt d S.n = true) (gd : S.tree.get d = some (dictO es n)) (ba : Nat.blt a S.n = true) (ga : S.tree.get a = some (dictO l m)) (hda : a ≠ d) (h11 : Nat.ble 11 d = true) (hsys : (a == sysModules) = false) (hes : es ≠ [])
    (hI : ∀ e ∈ l, IntE e) (hnd : ((es ++ l).map (·.hash)).Nodup) (hlen : es.length + l.length < 1000) :
    SR S (mergeMapping d (.ref a) false) (5 + 6 * l.length) { S with tree := S.tree.ins d (dictO (es ++ l) (n + l.length)) } () := by
  have ga' : ∀ k, (stK S d es l n k).tree.get a = some (dictO l m) := fun k => by
    show (S.tree.ins d _).get a = _
    rw [get_insK gd, if_neg hda]; exact ga
  have gd' : ∀ k, (stK S d es l n k).tree.get d = some (dictO (es ++ l.take k) (n + k)) := fun k => by
    show (S.tree.ins d _).get d = _
    rw [get_insK gd, if_pos rfl]
  have h0 : stK S d es l n 0 = S := by
    unfold stK
    rw [List.take_zero, List.append_nil, Nat.add_zero, set_id _ _ gd]
  have hN : stK S d es l n l.length = { S with tree := S.tree.ins d (dictO (es ++ l) (n + l.length)) } := by
    unfold stK
    rw [List.take_length]
  rw [← hN, show 5 + 6 * l.length = 1 + (1 + (1 + (1 + (1 + (6 * l.length + 0))))) by omega]
  unfold mergeMapping
  refine SR.bind (isDict_SR ba ga) ?_
  refine SR.bind (iterOf_SR ba ga) ?_
  simp only [beq_self_eq_true, Sem.bind, pure, Bind.bind]
  rw [if_neg (by rw [hsys]; exact Bool.false_ne_true)]
  refine SR.bind (entries_SR bd gd) ?_
  rw [if_neg (by
    cases es with
    | nil => exact absurd rfl hes
    | cons x r => simp [Array.isEmpty])]
  refine SR.bind (entries_SR ba ga) ?_
  refine SR.bind (epoch_SR ba ga) ?_
  refine SR.bind (n := 6 * l.length) (m := 0) (S₁ := stK S d es l n l.length) (a := ⟨⟩) ?_ .pure
  show SR S (forIn (List.range l.length) PUnit.unit _) _ _ _
  rw [forIn_IT, List.range_eq_range']
  conv => arg 1; rw [← h0]
  refine loop_SR (st := stK S d es l n) ?_ l.length 0 (Nat.zero_add _)
  intro k hk
  obtain ⟨k0, t0, v0, he⟩ := hI (l[k]) (List.getElem_mem hk)
  have eget : (Array.mk l)[k]? = some (l[k]) := by simp [List.getElem?_eq_getElem hk]
  refine SR.bind (n := 1) (m := 5) (entries_SR (S := stK S d es l n k) ba (ga' k)) ?_
  rw [eget, he]
  have hn : ∀ e ∈ es ++ l.take k, e.hash ≠ k0 := by
    intro e hm
    have e2 : (es ++ l) = (es ++ l.take k) ++ (l[k] :: l.drop (k + 1)) := by
      rw [List.append_assoc, ← List.drop_eq_getElem_cons hk, List.take_append_drop]
    rw [e2, List.map_append, List.nodup_append] at hnd
    have := hnd.2.2 e.hash (List.mem_map_of_mem hm) (l[k]).hash (by rw [List.map_cons]; exact .head _)
    rw [he] at this
    exact this
  have hp := put_SR (S := stK S d es l n k) (k := k0) (t := t0) (v := v0) bd (gd' k) hn h11 (by
    rw [List.length_append, List.length_take]; omega)
  have hs : ({ (stK S d es l n k) with tree := (stK S d es l n k).tree.ins d (dictO (es ++ l.take k ++ [⟨k0, .int k0 t0, v0⟩]) (n + k + 1)) } : SharedT) = stK S d es l n (k + 1) := by
    unfold stK
    dsimp only
    rw [ins_ins _ _ _ _ (by rw [gd]; rfl), List.take_add_one, List.getElem?_eq_getElem hk, he, ← List.append_assoc]
    rfl
  rw [hs] at hp
  refine SR.bind (n := 4) (m := 1) (SR.holding _ hp) ?_
  refine SR.bind (n := 1) (m := 0) (epoch_SR (S := stK S d es l n (k + 1)) ba (ga' (k + 1))) ?_
  rw [if_neg (by simp)]
  exact .pure
end
noncomputable def ddU : Σ' (body : Option (Sem Value) × Sem Value → SV → Sem (ForInStep SV)) (post : SV → Sem Value),
    ∀ items, dictDisplay items = (forIn items ((none, []) : SV) body : Sem SV) >>= post := ⟨_, _, fun _ => rfl⟩
theorem ddU_IT (items) : dictDisplay items = (IT ddU.1 items ((none, []) : SV)).bind ddU.2.1 := by
  rw [ddU.2.2 items, ← forIn_IT]
  rfl
noncomputable abbrev sm (p : Sem Value × Sem Value) : Option (Sem Value) × Sem Value := (some p.1, p.2)
theorem body_less (m : Option Addr) (r : List (Sem Value × Sem Value)) (x : Sem Value × Sem Value) (h : r.length < 16) : ddU.1 (sm x) (m, r) = .pure (.yield (m, r ++ [x])) := by
  have e : ((r ++ [x]).length == 17) = false := by rw [List.length_append, beq_eq_false_iff_ne]; simp only [List.length_cons, List.length_nil]; omega
  show (if ((r ++ [x]).length == 17) = true then _ else (Pure.pure _ : Sem (ForInStep SV))) = _
  rw [e, if_neg Bool.false_ne_true]
  rfl
theorem LS_acc (m : Option Addr) (rest : List (Option (Sem Value) × Sem Value)) : ∀ (L r : List (Sem Value × Sem Value)), r.length + L.length ≤ 16 → LS ddU.1 (L.map sm ++ rest) (m, r) = LS ddU.1 rest (m, r ++ L)
  | [], r, _ => by rw [List.append_nil]; rfl
  | x :: L, r, h => by
    show ((ddU.1 (sm x) (m, r)).bind _) = _
    rw [body_less m r x (by simp only [List.length_cons] at h; omega)]
    show LS ddU.1 (L.map sm ++ rest) (m, r ++ [x]) = _
    rw [LS_acc m rest L (r ++ [x]) (by simp only [List.length_cons, List.length_append, List.length_nil] at h ⊢; omega), List.append_assoc]
    rfl
theorem body_full_none (r : List (Sem Value × Sem Value)) (x : Sem Value × Sem Value) (h : r.length = 16) :
    ddU.1 (sm x) (none, r) = ((subDict (r ++ [x])).bind fun a => .pure (some a)).bind fun m => .pure (.yield (m, [])) := by
  have e : ((r ++ [x]).length == 17) = true := by rw [List.length_append, h]; rfl
  have e2 : (r ++ [x]).isEmpty = false := by cases r <;> rfl
  show (if ((r ++ [x]).length == 17) = true then (Sem.bind (if (r ++ [x]).isEmpty = true then _ else _) _) else _) = _
  rw [e, if_pos rfl, e2, if_neg Bool.false_ne_true]
  rfl
theorem body_full_some (d : Addr) : ∃ g : Addr → Value → Sem Unit, ∀ (r : List (Sem Value × Sem Value)) (x : Sem Value × Sem Value), r.length = 16 →
    ddU.1 (sm x) (some d, r) = ((holding [.ref d] (subDict (r ++ [x]))).bind fun a => ((holding [.ref d, .ref a] (mergeMapping d (.ref a) false)).onRaise (g a)).bind fun _ => .pure (some d)).bind fun m => .pure (.yield (m, [])) := by
  apply Exists.intro
  intro r x h
  have e : ((r ++ [x]).length == 17) = true := by rw [List.length_append, h]; rfl
  have e2 : (r ++ [x]).isEmpty = false := by cases r <;> rfl
  show (if ((r ++ [x]).length == 17) = true then (Sem.bind (if (r ++ [x]).isEmpty = true then _ else _) _) else _) = _
  rw [e, if_pos rfl, e2, if_neg Bool.false_ne_true]
  rfl
theorem post_some (d : Addr) : ∃ g : Addr → Value → Sem Unit, ∀ (r : List (Sem Value × Sem Value)), r ≠ [] →
    ddU.2.1 (some d, r) = ((holding [.ref d] (subDict r)).bind fun a => ((holding [.ref d, .ref a] (mergeMapping d (.ref a) false)).onRaise (g a)).bind fun _ => .pure (some d)).bind fun m => match m with | some d => .pure (.ref d) | none => newDict := by
  apply Exists.intro
  intro r h
  have e2 : r.isEmpty = false := by cases r <;> first | rfl | exact absurd rfl h
  show (Sem.bind (if r.isEmpty = true then _ else _) _) = _
  rw [e2, if_neg Bool.false_ne_true]
  rfl

/- runs of the top's own body, cut at trees: from one laid-out state to the other -/
section
variable {w : World} {α β : Type}
noncomputable def Rn (w : World) {α : Type} (n : Nat) (S : SharedT) (p : Pos) (x : Sem α) (S' : SharedT) (p' : Pos) (a : α) : Prop :=
  ∀ (K' : α → Sem Fin) (H' : Value → Sem Fin) (N : Nat) (r : Shared), topRun treeTable pq w 11 annT N S'.abs ⟨K' a, codT pq, p', topB⟩ = some r → topRun treeTable pq w 11 annT (n + N) S.abs ⟨x.wrap K' H' id id, codT pq, p, topB⟩ = some r
theorem Rn.pure {S : SharedT} {p : Pos} {a : α} : Rn w 0 S p (.pure a) S p a := fun _ _ N _ h => by rw [Nat.zero_add]; exact h
theorem Rn.bind {n m : Nat} {S S₁ S₂ : SharedT} {p p₁ p₂ : Pos} {x : Sem α} {f : α → Sem β} {a : α} {b : β} (h : Rn w n S p x S₁ p₁ a) (k : Rn w m S₁ p₁ (f a) S₂ p₂ b) : Rn w (n + m) S p (x.bind f) S₂ p₂ b := fun K' H' N r q => by
  rw [Sem.bind_eq_wrap, Sem.wrap_wrap, Nat.add_assoc]
  exact h (fun a => (f a).wrap K' H' id id) H' (m + N) r (k K' H' N r q)
theorem Rn.eq {n : Nat} {S S₁ : SharedT} {p p₁ : Pos} {x y : Sem α} {a : α} (e : y = x) (h : Rn w n S p x S₁ p₁ a) : Rn w n S p y S₁ p₁ a := e ▸ h
theorem step_top {S S' : SharedT} {t t' : Thread} {N : Nat} {r : Shared} (h1 : through t = false) (h2 : stepOk 11 annT t = true) (h3 : stepT (denote treeTable) pq w S t = some (S', t')) (k : topRun treeTable pq w 11 annT N S'.abs t' = some r) :
    topRun treeTable pq w 11 annT (N + 1) S.abs t = some r := by
  unfold topRun
  rw [h1, h2, stepT_spec h3]
  exact k
theorem Rn.at {S : SharedT} {p q : Pos} : Rn w 1 S p (.at q .pure) S q () := fun K' H' N r h => by
  rw [Nat.add_comm]
  exact step_top (S' := S) (t' := ⟨K' (), codT pq, q, topB⟩) rfl rfl rfl h
theorem Rn.of_SR {n : Nat} {S S' : SharedT} {p : Pos} {x : Sem α} {a : α} (h : SR S x n S' a) : Rn w n S p x S' p a := by
  induction h with
  | pure => exact Rn.pure
  | @rule S S' t k n b h ih =>
    intro K' H' N r q
    rw [Nat.add_right_comm]
    exact step_top (S' := S) (t' := ⟨(k ()).wrap K' H' id id, codT pq, p, topB⟩) rfl rfl rfl (ih K' H' N r q)
  | @load S S' a q₀ k n b o h1 h2 h3 h ih =>
    intro K' H' N r q
    rw [Nat.add_right_comm]
    refine step_top (S' := S) (t' := ⟨(k o).wrap K' H' id id, codT pq, p, topB⟩) rfl rfl ?_ (ih K' H' N r q)
    obtain ⟨T, n, life, gens, drawn, toks, os⟩ := S
    dsimp only at h1 h2
    simp only [Sem.wrap, stepT, h1, h2, h3]
  | @upd S S' a q₀ f k n b o h1 h2 h3 h4 h ih =>
    intro K' H' N r q
    rw [Nat.add_right_comm]
    refine step_top (S' := { S with tree := S.tree.set a f }) (t' := ⟨(k ()).wrap K' H' id id, codT pq, p, topB⟩) rfl ?_ ?_ (ih K' H' N r q)
    · show (true && (Nat.ble 11 a || _ || _ || _)) = true
      rw [h4]; rfl
    · obtain ⟨T, n, life, gens, drawn, toks, os⟩ := S
      dsimp only at h1 h2
      simp only [Sem.wrap, stepT, h1, h2, h3]
theorem Rn.of_run {n : Nat} {S S' : SharedT} {p p' : Pos} {x : Sem α} {a : α} {f : Flow} {res : α → Flow} (hi : ∀ b, res b = f → b = a)
    (h : RunG w n S p (x.wrap (fun a => .pure (.done (res a))) deadEnd id id) S' p' f) : Rn w n S p x S' p' a := fun K' H' N r q => by
  have h' : segRunT treeTable pq w 11 annT 1 n S ⟨x.wrap (fun a => .pure (.done (res a))) deadEnd id id, codT pq, p, topB⟩ = some (f, S', codT pq, p') := by
    rw [PySem.W.Fast.te10110043849684766642, PySem.W.Fast.te14364793385576792824]; exact h
  obtain ⟨b, hb, hk⟩ := seg_top (K' := K') (H' := H') (gd := id) (lv := id) (res := res) (B := topB) rfl n S.abs ⟨x.wrap (fun a => .pure (.done (res a))) deadEnd id id, codT pq, p, topB⟩ ⟨x.wrap K' H' id id, codT pq, p, topB⟩ f S'.abs (codT pq) p' ⟨rfl, rfl, .inl ⟨rfl, rfl, x, rfl, rfl⟩⟩ (segRun_of h')
  obtain rfl := hi b hb
  exact hk N r q
end
noncomputable def bo0 (_p : Program) (P : Params) : Obj := PySem.W.boot_o_0 P
noncomputable def bo1 (_p : Program) (P : Params) : Obj := PySem.W.boot_o_1 P
noncomputable def bo2 (_p : Program) (P : Params) : Obj := PySem.W.boot_o_2 P
noncomputable def bo3 (_p : Program) (P : Params) : Obj := PySem.W.boot_o_3 P
noncomputable def bo4 (_p : Program) (P : Params) : Obj := PySem.W.boot_o_4 P
noncomputable def bo5 (_p : Program) (P : Params) : Obj := PySem.W.boot_o_5 P
noncomputable def bo6 (_p : Program) (P : Params) : Obj := PySem.W.boot_o_6 P
noncomputable def bo7 (_p : Program) (P : Params) : Obj := PySem.W.boot_o_7 P
noncomputable def bo8 (_p : Program) (P : Params) : Obj := PySem.W.boot_o_8 P
noncomputable def bo9 (_p : Program) (P : Params) : Obj := PySem.W.boot_o_9 P
noncomputable def bo10 (_p : Program) (P : Params) : Obj := PySem.W.boot_o_10 P
noncomputable def o11_0 (p : Program) (P : Params) : Obj := ⟨.type PySem.W.SL.s2766695959194262286x5, none, .seq (Array.mk []) 0, (Array.mk [])⟩
noncomputable def o12_0 (p : Program) (P : Params) : Obj := ⟨.none, none, .fields (Array.mk []), (Array.mk [])⟩
noncomputable def o13_0 (p : Program) (P : Params) : Obj := ⟨.type PySem.W.SL.s5856160107412720595x4, none, .fields (Array.mk [.str (mkS [60,109,111,100,117,108,101,62]) 182, .str (mkS [60,109,111,100,117,108,101,62]) 183, .str (mkS [47,99,108,97,105,109,47,99,117,116,46,112,121]) 184, .int 1 0, .int 0 0, .int 0 0, .int 0 0, .int 0 0, .ref 11, .bool false, .int 181 0, .ref 12, .none, .none, .none, .none, .int 185 0, .int 1 0, .str (mkS [47,99,108,97,105,109,47,99,117,116,46,112,121]) 186]), (Array.mk [])⟩
noncomputable def o14_0 (p : Program) (P : Params) : Obj := ⟨.type PySem.W.SL.s658472552662922059x5, none, .plain, (Array.mk [(some (.ref 13)), (some (.ref 3)), (some (.ref 3)), none, (some (.str (mkS [95,95,109,97,105,110,95,95]) 164)), none, (some (.ref 0))])⟩
noncomputable def hPre (p : Program) (P : Params) : Heap := ⟨Array.mk [bo0 p P, bo1 p P, bo2 p P, bo3 p P, bo4 p P, bo5 p P, bo6 p P, bo7 p P, bo8 p P, bo9 p P, bo10 p P, o11_0 p P, o12_0 p P, o13_0 p P, o14_0 p P], {}⟩
noncomputable def tB (p : Program) (P : Params) : BT := (.node (bo0 p P) (.node (bo1 p P) (.node (bo3 p P) (.node (bo7 p P) .nil .nil) (.node (o11_0 p P) .nil .nil)) (.node (bo5 p P) (.node (bo9 p P) .nil .nil) (.node (o13_0 p P) .nil .nil))) (.node (bo2 p P) (.node (bo4 p P) (.node (bo8 p P) .nil .nil) (.node (o12_0 p P) .nil .nil)) (.node (bo6 p P) (.node (bo10 p P) .nil .nil) (.node (o14_0 p P) .nil .nil))))
noncomputable def o3_1 (p : Program) (P : Params) : Obj := ⟨.type PySem.W.SL.s14018661285674007319x4, none, .dict (Array.mk [⟨PyData.keyHash P (mkS [95,95,110,97,109,101,95,95]), .str (mkS [95,95,110,97,109,101,95,95]) 165, .str (mkS [99,112,121,51,49,51,46,99,111,108,111,114,115,121,115]) 187⟩, ⟨PyData.keyHash P (mkS [95,95,100,111,99,95,95]), .str (mkS [95,95,100,111,99,95,95]) 166, .none⟩, ⟨PyData.keyHash P (mkS [95,95,112,97,99,107,97,103,101,95,95]), .str (mkS [95,95,112,97,99,107,97,103,101,95,95]) 167, .none⟩, ⟨PyData.keyHash P (mkS [95,95,108,111,97,100,101,114,95,95]), .str (mkS [95,95,108,111,97,100,101,114,95,95]) 168, .builtin PySem.W.SL.s7097527257260152453x26⟩, ⟨PyData.keyHash P (mkS [95,95,115,112,101,99,95,95]), .str (mkS [95,95,115,112,101,99,95,95]) 169, .none⟩, ⟨PyData.keyHash P (mkS [95,95,97,110,110,111,116,97,116,105,111,110,115,95,95]), .str (mkS [95,95,97,110,110,111,116,97,116,105,111,110,115,95,95]) 170, .ref 6⟩, ⟨PyData.keyHash P (mkS [95,95,98,117,105,108,116,105,110,115,95,95]), .str (mkS [95,95,98,117,105,108,116,105,110,115,95,95]) 171, .ref 4⟩, ⟨PyData.keyHash P (mkS [95,95,102,105,108,101,95,95]), .str (mkS [95,95,102,105,108,101,95,95]) 173, .str (mkS [47,99,108,97,105,109,47,99,117,116,46,112,121]) 172⟩, ⟨PyData.keyHash P (mkS [95,95,99,97,99,104,101,100,95,95]), .str (mkS [95,95,99,97,99,104,101,100,95,95]) 174, .none⟩]) 9, (Array.mk [])⟩
noncomputable def t0 (p : Program) (P : Params) : BT := ((tB p P).ins 3 (o3_1 p P))
noncomputable def o3_2 (p : Program) (P : Params) : Obj := ⟨.type PySem.W.SL.s14018661285674007319x4, none, .dict (Array.mk [⟨PyData.keyHash P (mkS [95,95,110,97,109,101,95,95]), .str (mkS [95,95,110,97,109,101,95,95]) 165, .str (mkS [99,112,121,51,49,51,46,99,111,108,111,114,115,121,115]) 187⟩, ⟨PyData.keyHash P (mkS [95,95,100,111,99,95,95]), .str (mkS [95,95,100,111,99,95,95]) 166, .none⟩, ⟨PyData.keyHash P (mkS [95,95,112,97,99,107,97,103,101,95,95]), .str (mkS [95,95,112,97,99,107,97,103,101,95,95]) 167, .none⟩, ⟨PyData.keyHash P (mkS [95,95,108,111,97,100,101,114,95,95]), .str (mkS [95,95,108,111,97,100,101,114,95,95]) 168, .builtin PySem.W.SL.s7097527257260152453x26⟩, ⟨PyData.keyHash P (mkS [95,95,115,112,101,99,95,95]), .str (mkS [95,95,115,112,101,99,95,95]) 169, .none⟩, ⟨PyData.keyHash P (mkS [95,95,97,110,110,111,116,97,116,105,111,110,115,95,95]), .str (mkS [95,95,97,110,110,111,116,97,116,105,111,110,115,95,95]) 170, .ref 6⟩, ⟨PyData.keyHash P (mkS [95,95,98,117,105,108,116,105,110,115,95,95]), .str (mkS [95,95,98,117,105,108,116,105,110,115,95,95]) 171, .ref 4⟩, ⟨PyData.keyHash P (mkS [95,95,102,105,108,101,95,95]), .str (mkS [95,95,102,105,108,101,95,95]) 173, .str (mkS [47,99,108,97,105,109,47,99,117,116,46,112,121]) 172⟩, ⟨PyData.keyHash P (mkS [95,95,99,97,99,104,101,100,95,95]), .str (mkS [95,95,99,97,99,104,101,100,95,95]) 174, .none⟩, ⟨PyData.keyHash P (mkS [114,103,98,95,116,111,95,104,108,115]), .str (mkS [114,103,98,95,116,111,95,104,108,115]) 207, .ref 21⟩]) 10, (Array.mk [])⟩
noncomputable def o12_1 (p : Program) (P : Params) : Obj := ⟨.none, none, .fields (Array.mk [.int 2 0, .int 0 0, .ref 20]), (Array.mk [])⟩
noncomputable def o15_0 (p : Program) (P : Params) : Obj := ⟨.type PySem.W.SL.s2766695959194262286x5, none, .seq (Array.mk []) 0, (Array.mk [])⟩
noncomputable def o16_0 (p : Program) (P : Params) : Obj := ⟨.none, none, .fields (Array.mk []), (Array.mk [])⟩
noncomputable def o17_0 (p : Program) (P : Params) : Obj := ⟨.type PySem.W.SL.s2766695959194262286x5, none, .seq (Array.mk [.str (mkS [114]) 192, .str (mkS [103]) 193, .str (mkS [98]) 194, .str (mkS [109,97,120,99]) 195, .str (mkS [109,105,110,99]) 196, .str (mkS [115,117,109,99]) 197, .str (mkS [114,97,110,103,101,99]) 198, .str (mkS [108]) 199, .str (mkS [115]) 200, .str (mkS [114,99]) 201, .str (mkS [103,99]) 202, .str (mkS [98,99]) 203, .str (mkS [104]) 204]) 0, (Array.mk [])⟩
noncomputable def o18_0 (p : Program) (P : Params) : Obj := ⟨.type PySem.W.SL.s2766695959194262286x5, none, .seq (Array.mk []) 0, (Array.mk [])⟩
noncomputable def o19_0 (p : Program) (P : Params) : Obj := ⟨.none, none, .func { name := (mkS [114,103,98,95,116,111,95,104,108,115]), qualname := (mkS [114,103,98,95,116,111,95,104,108,115]), params := fa (stmtAt p 1), body := .stmts (fb (stmtAt p 1)), scope := fs (stmtAt p 1), globals := 0, closure := [], defaults := .none, kwdefaults := .none, doc := .none, pyModule := .none, annotations := none, code := .none, closureTuple := .none, builtins := 0 }, (Array.mk [])⟩
noncomputable def o20_0 (p : Program) (P : Params) : Obj := ⟨.type PySem.W.SL.s5856160107412720595x4, none, .fields (Array.mk [.str (mkS [114,103,98,95,116,111,95,104,108,115]) 189, .str (mkS [114,103,98,95,116,111,95,104,108,115]) 190, .str (mkS [47,99,108,97,105,109,47,99,117,116,46,112,121]) 191, .int 2 0, .int 3 0, .int 0 0, .int 0 0, .int 3 0, .ref 15, .bool true, .int 181 0, .ref 16, .none, .ref 17, .ref 18, .ref 19, .int 205 0, .int 2 0, .str (mkS [47,99,108,97,105,109,47,99,117,116,46,112,121]) 206]), (Array.mk [])⟩
noncomputable def o21_0 (p : Program) (P : Params) : Obj := ⟨.type PySem.W.SL.s7174869446012820540x8, none, .func { name := (mkS [114,103,98,95,116,111,95,104,108,115]), qualname := (mkS [114,103,98,95,116,111,95,104,108,115]), params := fa (stmtAt p 1), body := .stmts (fb (stmtAt p 1)), scope := fs (stmtAt p 1), globals := 3, closure := [], defaults := .none, kwdefaults := .none, doc := .none, pyModule := .str (mkS [99,112,121,51,49,51,46,99,111,108,111,114,115,121,115]) 187, annotations := none, code := .ref 20, closureTuple := .none, builtins := 0 }, (Array.mk [])⟩
noncomputable def t1 (p : Program) (P : Params) : BT := ((((((((((t0 p P).ins 3 (o3_2 p P)).ins 12 (o12_1 p P)).ins 15 (o15_0 p P)).ins 16 (o16_0 p P)).ins 17 (o17_0 p P)).ins 18 (o18_0 p P)).ins 19 (o19_0 p P)).ins 20 (o20_0 p P)).ins 21 (o21_0 p P))
noncomputable def o3_3 (p : Program) (P : Params) : Obj := ⟨.type PySem.W.SL.s14018661285674007319x4, none, .dict (Array.mk [⟨PyData.keyHash P (mkS [95,95,110,97,109,101,95,95]), .str (mkS [95,95,110,97,109,101,95,95]) 165, .str (mkS [99,112,121,51,49,51,46,99,111,108,111,114,115,121,115]) 187⟩, ⟨PyData.keyHash P (mkS [95,95,100,111,99,95,95]), .str (mkS [95,95,100,111,99,95,95]) 166, .none⟩, ⟨PyData.keyHash P (mkS [95,95,112,97,99,107,97,103,101,95,95]), .str (mkS [95,95,112,97,99,107,97,103,101,95,95]) 167, .none⟩, ⟨PyData.keyHash P (mkS [95,95,108,111,97,100,101,114,95,95]), .str (mkS [95,95,108,111,97,100,101,114,95,95]) 168, .builtin PySem.W.SL.s7097527257260152453x26⟩, ⟨PyData.keyHash P (mkS [95,95,115,112,101,99,95,95]), .str (mkS [95,95,115,112,101,99,95,95]) 169, .none⟩, ⟨PyData.keyHash P (mkS [95,95,97,110,110,111,116,97,116,105,111,110,115,95,95]), .str (mkS [95,95,97,110,110,111,116,97,116,105,111,110,115,95,95]) 170, .ref 6⟩, ⟨PyData.keyHash P (mkS [95,95,98,117,105,108,116,105,110,115,95,95]), .str (mkS [95,95,98,117,105,108,116,105,110,115,95,95]) 171, .ref 4⟩, ⟨PyData.keyHash P (mkS [95,95,102,105,108,101,95,95]), .str (mkS [95,95,102,105,108,101,95,95]) 173, .str (mkS [47,99,108,97,105,109,47,99,117,116,46,112,121]) 172⟩, ⟨PyData.keyHash P (mkS [95,95,99,97,99,104,101,100,95,95]), .str (mkS [95,95,99,97,99,104,101,100,95,95]) 174, .none⟩, ⟨PyData.keyHash P (mkS [114,103,98,95,116,111,95,104,108,115]), .str (mkS [114,103,98,95,116,111,95,104,108,115]) 207, .ref 21⟩, ⟨PyData.keyHash P (mkS [114,103,98,95,116,111,95,104,115,118]), .str (mkS [114,103,98,95,116,111,95,104,115,118]) 225, .ref 28⟩]) 11, (Array.mk [])⟩
noncomputable def o12_2 (p : Program) (P : Params) : Obj := ⟨.none, none, .fields (Array.mk [.int 2 0, .int 0 0, .ref 20, .int 25 0, .int 0 0, .ref 27]), (Array.mk [])⟩
noncomputable def o22_0 (p : Program) (P : Params) : Obj := ⟨.type PySem.W.SL.s2766695959194262286x5, none, .seq (Array.mk []) 0, (Array.mk [])⟩
noncomputable def o23_0 (p : Program) (P : Params) : Obj := ⟨.none, none, .fields (Array.mk []), (Array.mk [])⟩
noncomputable def o24_0 (p : Program) (P : Params) : Obj := ⟨.type PySem.W.SL.s2766695959194262286x5, none, .seq (Array.mk [.str (mkS [114]) 211, .str (mkS [103]) 212, .str (mkS [98]) 213, .str (mkS [109,97,120,99]) 214, .str (mkS [109,105,110,99]) 215, .str (mkS [114,97,110,103,101,99]) 216, .str (mkS [118]) 217, .str (mkS [115]) 218, .str (mkS [114,99]) 219, .str (mkS [103,99]) 220, .str (mkS [98,99]) 221, .str (mkS [104]) 222]) 0, (Array.mk [])⟩
noncomputable def o25_0 (p : Program) (P : Params) : Obj := ⟨.type PySem.W.SL.s2766695959194262286x5, none, .seq (Array.mk []) 0, (Array.mk [])⟩
noncomputable def o26_0 (p : Program) (P : Params) : Obj := ⟨.none, none, .func { name := (mkS [114,103,98,95,116,111,95,104,115,118]), qualname := (mkS [114,103,98,95,116,111,95,104,115,118]), params := fa (stmtAt p 2), body := .stmts (fb (stmtAt p 2)), scope := fs (stmtAt p 2), globals := 0, closure := [], defaults := .none, kwdefaults := .none, doc := .none, pyModule := .none, annotations := none, code := .none, closureTuple := .none, builtins := 0 }, (Array.mk [])⟩
noncomputable def o27_0 (p : Program) (P : Params) : Obj := ⟨.type PySem.W.SL.s5856160107412720595x4, none, .fields (Array.mk [.str (mkS [114,103,98,95,116,111,95,104,115,118]) 208, .str (mkS [114,103,98,95,116,111,95,104,115,118]) 209, .str (mkS [47,99,108,97,105,109,47,99,117,116,46,112,121]) 210, .int 25 0, .int 3 0, .int 0 0, .int 0 0, .int 3 0, .ref 22, .bool true, .int 181 0, .ref 23, .none, .ref 24, .ref 25, .ref 26, .int 223 0, .int 25 0, .str (mkS [47,99,108,97,105,109,47,99,117,116,46,112,121]) 224]), (Array.mk [])⟩
noncomputable def o28_0 (p : Program) (P : Params) : Obj := ⟨.type PySem.W.SL.s7174869446012820540x8, none, .func { name := (mkS [114,103,98,95,116,111,95,104,115,118]), qualname := (mkS [114,103,98,95,116,111,95,104,115,118]), params := fa (stmtAt p 2), body := .stmts (fb (stmtAt p 2)), scope := fs (stmtAt p 2), globals := 3, closure := [], defaults := .none, kwdefaults := .none, doc := .none, pyModule := .str (mkS [99,112,121,51,49,51,46,99,111,108,111,114,115,121,115]) 187, annotations := none, code := .ref 27, closureTuple := .none, builtins := 0 }, (Array.mk [])⟩
noncomputable def t2 (p : Program) (P : Params) : BT := ((((((((((t1 p P).ins 3 (o3_3 p P)).ins 12 (o12_2 p P)).ins 22 (o22_0 p P)).ins 23 (o23_0 p P)).ins 24 (o24_0 p P)).ins 25 (o25_0 p P)).ins 26 (o26_0 p P)).ins 27 (o27_0 p P)).ins 28 (o28_0 p P))
noncomputable def o3_4 (p : Program) (P : Params) : Obj := ⟨.type PySem.W.SL.s14018661285674007319x4, none, .dict (Array.mk [⟨PyData.keyHash P (mkS [95,95,110,97,109,101,95,95]), .str (mkS [95,95,110,97,109,101,95,95]) 165, .str (mkS [99,112,121,51,49,51,46,108,111,99,97,108,101]) 226⟩, ⟨PyData.keyHash P (mkS [95,95,100,111,99,95,95]), .str (mkS [95,95,100,111,99,95,95]) 166, .none⟩, ⟨PyData.keyHash P (mkS [95,95,112,97,99,107,97,103,101,95,95]), .str (mkS [95,95,112,97,99,107,97,103,101,95,95]) 167, .none⟩, ⟨PyData.keyHash P (mkS [95,95,108,111,97,100,101,114,95,95]), .str (mkS [95,95,108,111,97,100,101,114,95,95]) 168, .builtin PySem.W.SL.s7097527257260152453x26⟩, ⟨PyData.keyHash P (mkS [95,95,115,112,101,99,95,95]), .str (mkS [95,95,115,112,101,99,95,95]) 169, .none⟩, ⟨PyData.keyHash P (mkS [95,95,97,110,110,111,116,97,116,105,111,110,115,95,95]), .str (mkS [95,95,97,110,110,111,116,97,116,105,111,110,115,95,95]) 170, .ref 6⟩, ⟨PyData.keyHash P (mkS [95,95,98,117,105,108,116,105,110,115,95,95]), .str (mkS [95,95,98,117,105,108,116,105,110,115,95,95]) 171, .ref 4⟩, ⟨PyData.keyHash P (mkS [95,95,102,105,108,101,95,95]), .str (mkS [95,95,102,105,108,101,95,95]) 173, .str (mkS [47,99,108,97,105,109,47,99,117,116,46,112,121]) 172⟩, ⟨PyData.keyHash P (mkS [95,95,99,97,99,104,101,100,95,95]), .str (mkS [95,95,99,97,99,104,101,100,95,95]) 174, .none⟩, ⟨PyData.keyHash P (mkS [114,103,98,95,116,111,95,104,108,115]), .str (mkS [114,103,98,95,116,111,95,104,108,115]) 207, .ref 21⟩, ⟨PyData.keyHash P (mkS [114,103,98,95,116,111,95,104,115,118]), .str (mkS [114,103,98,95,116,111,95,104,115,118]) 225, .ref 28⟩]) 11, (Array.mk [])⟩
noncomputable def t3 (p : Program) (P : Params) : BT := (.node (bo0 p P) (.node (bo1 p P) (.node (o3_4 p P) (.node (bo7 p P) (.node (o15_0 p P) .nil .nil) (.node (o23_0 p P) .nil .nil)) (.node (o11_0 p P) (.node (o19_0 p P) .nil .nil) (.node (o27_0 p P) .nil .nil))) (.node (bo5 p P) (.node (bo9 p P) (.node (o17_0 p P) .nil .nil) (.node (o25_0 p P) .nil .nil)) (.node (o13_0 p P) (.node (o21_0 p P) .nil .nil) .nil))) (.node (bo2 p P) (.node (bo4 p P) (.node (bo8 p P) (.node (o16_0 p P) .nil .nil) (.node (o24_0 p P) .nil .nil)) (.node (o12_2 p P) (.node (o20_0 p P) .nil .nil) (.node (o28_0 p P) .nil .nil))) (.node (bo6 p P) (.node (bo10 p P) (.node (o18_0 p P) .nil .nil) (.node (o26_0 p P) .nil .nil)) (.node (o14_0 p P) (.node (o22_0 p P) .nil .nil) .nil))))
noncomputable def o3_5 (p : Program) (P : Params) : Obj := ⟨.type PySem.W.SL.s14018661285674007319x4, none, .dict (Array.mk [⟨PyData.keyHash P (mkS [95,95,110,97,109,101,95,95]), .str (mkS [95,95,110,97,109,101,95,95]) 165, .str (mkS [99,112,121,51,49,51,46,108,111,99,97,108,101]) 226⟩, ⟨PyData.keyHash P (mkS [95,95,100,111,99,95,95]), .str (mkS [95,95,100,111,99,95,95]) 166, .none⟩, ⟨PyData.keyHash P (mkS [95,95,112,97,99,107,97,103,101,95,95]), .str (mkS [95,95,112,97,99,107,97,103,101,95,95]) 167, .none⟩, ⟨PyData.keyHash P (mkS [95,95,108,111,97,100,101,114,95,95]), .str (mkS [95,95,108,111,97,100,101,114,95,95]) 168, .builtin PySem.W.SL.s7097527257260152453x26⟩, ⟨PyData.keyHash P (mkS [95,95,115,112,101,99,95,95]), .str (mkS [95,95,115,112,101,99,95,95]) 169, .none⟩, ⟨PyData.keyHash P (mkS [95,95,97,110,110,111,116,97,116,105,111,110,115,95,95]), .str (mkS [95,95,97,110,110,111,116,97,116,105,111,110,115,95,95]) 170, .ref 6⟩, ⟨PyData.keyHash P (mkS [95,95,98,117,105,108,116,105,110,115,95,95]), .str (mkS [95,95,98,117,105,108,116,105,110,115,95,95]) 171, .ref 4⟩, ⟨PyData.keyHash P (mkS [95,95,102,105,108,101,95,95]), .str (mkS [95,95,102,105,108,101,95,95]) 173, .str (mkS [47,99,108,97,105,109,47,99,117,116,46,112,121]) 172⟩, ⟨PyData.keyHash P (mkS [95,95,99,97,99,104,101,100,95,95]), .str (mkS [95,95,99,97,99,104,101,100,95,95]) 174, .none⟩, ⟨PyData.keyHash P (mkS [114,103,98,95,116,111,95,104,108,115]), .str (mkS [114,103,98,95,116,111,95,104,108,115]) 207, .ref 21⟩, ⟨PyData.keyHash P (mkS [114,103,98,95,116,111,95,104,115,118]), .str (mkS [114,103,98,95,116,111,95,104,115,118]) 225, .ref 28⟩, ⟨PyData.keyHash P (mkS [95,115,116,114,105,112,95,112,97,100,100,105,110,103]), .str (mkS [95,115,116,114,105,112,95,112,97,100,100,105,110,103]) 237, .ref 35⟩]) 12, (Array.mk [])⟩
noncomputable def o12_3 (p : Program) (P : Params) : Obj := ⟨.none, none, .fields (Array.mk [.int 2 0, .int 0 0, .ref 20, .int 25 0, .int 0 0, .ref 27, .int 45 0, .int 0 0, .ref 34]), (Array.mk [])⟩
noncomputable def o29_0 (p : Program) (P : Params) : Obj := ⟨.type PySem.W.SL.s2766695959194262286x5, none, .seq (Array.mk []) 0, (Array.mk [])⟩
noncomputable def o30_0 (p : Program) (P : Params) : Obj := ⟨.none, none, .fields (Array.mk []), (Array.mk [])⟩
noncomputable def o31_0 (p : Program) (P : Params) : Obj := ⟨.type PySem.W.SL.s2766695959194262286x5, none, .seq (Array.mk [.str (mkS [115]) 231, .str (mkS [97,109,111,117,110,116]) 232, .str (mkS [108,112,111,115]) 233, .str (mkS [114,112,111,115]) 234]) 0, (Array.mk [])⟩
noncomputable def o32_0 (p : Program) (P : Params) : Obj := ⟨.type PySem.W.SL.s2766695959194262286x5, none, .seq (Array.mk []) 0, (Array.mk [])⟩
noncomputable def o33_0 (p : Program) (P : Params) : Obj := ⟨.none, none, .func { name := (mkS [95,115,116,114,105,112,95,112,97,100,100,105,110,103]), qualname := (mkS [95,115,116,114,105,112,95,112,97,100,100,105,110,103]), params := fa (stmtAt p 4), body := .stmts (fb (stmtAt p 4)), scope := fs (stmtAt p 4), globals := 0, closure := [], defaults := .none, kwdefaults := .none, doc := .none, pyModule := .none, annotations := none, code := .none, closureTuple := .none, builtins := 0 }, (Array.mk [])⟩
noncomputable def o34_0 (p : Program) (P : Params) : Obj := ⟨.type PySem.W.SL.s5856160107412720595x4, none, .fields (Array.mk [.str (mkS [95,115,116,114,105,112,95,112,97,100,100,105,110,103]) 228, .str (mkS [95,115,116,114,105,112,95,112,97,100,100,105,110,103]) 229, .str (mkS [47,99,108,97,105,109,47,99,117,116,46,112,121]) 230, .int 45 0, .int 2 0, .int 0 0, .int 0 0, .int 3 0, .ref 29, .bool true, .int 181 0, .ref 30, .none, .ref 31, .ref 32, .ref 33, .int 235 0, .int 45 0, .str (mkS [47,99,108,97,105,109,47,99,117,116,46,112,121]) 236]), (Array.mk [])⟩
noncomputable def o35_0 (p : Program) (P : Params) : Obj := ⟨.type PySem.W.SL.s7174869446012820540x8, none, .func { name := (mkS [95,115,116,114,105,112,95,112,97,100,100,105,110,103]), qualname := (mkS [95,115,116,114,105,112,95,112,97,100,100,105,110,103]), params := fa (stmtAt p 4), body := .stmts (fb (stmtAt p 4)), scope := fs (stmtAt p 4), globals := 3, closure := [], defaults := .none, kwdefaults := .none, doc := .none, pyModule := .str (mkS [99,112,121,51,49,51,46,108,111,99,97,108,101]) 226, annotations := none, code := .ref 34, closureTuple := .none, builtins := 0 }, (Array.mk [])⟩
noncomputable def t4 (p : Program) (P : Params) : BT := ((((((((((t3 p P).ins 3 (o3_5 p P)).ins 12 (o12_3 p P)).ins 29 (o29_0 p P)).ins 30 (o30_0 p P)).ins 31 (o31_0 p P)).ins 32 (o32_0 p P)).ins 33 (o33_0 p P)).ins 34 (o34_0 p P)).ins 35 (o35_0 p P))
noncomputable def o3_6 (p : Program) (P : Params) : Obj := ⟨.type PySem.W.SL.s14018661285674007319x4, none, .dict (Array.mk [⟨PyData.keyHash P (mkS [95,95,110,97,109,101,95,95]), .str (mkS [95,95,110,97,109,101,95,95]) 165, .str (mkS [99,112,121,51,49,51,46,115,116,114,105,110,103,112,114,101,112]) 238⟩, ⟨PyData.keyHash P (mkS [95,95,100,111,99,95,95]), .str (mkS [95,95,100,111,99,95,95]) 166, .none⟩, ⟨PyData.keyHash P (mkS [95,95,112,97,99,107,97,103,101,95,95]), .str (mkS [95,95,112,97,99,107,97,103,101,95,95]) 167, .none⟩, ⟨PyData.keyHash P (mkS [95,95,108,111,97,100,101,114,95,95]), .str (mkS [95,95,108,111,97,100,101,114,95,95]) 168, .builtin PySem.W.SL.s7097527257260152453x26⟩, ⟨PyData.keyHash P (mkS [95,95,115,112,101,99,95,95]), .str (mkS [95,95,115,112,101,99,95,95]) 169, .none⟩, ⟨PyData.keyHash P (mkS [95,95,97,110,110,111,116,97,116,105,111,110,115,95,95]), .str (mkS [95,95,97,110,110,111,116,97,116,105,111,110,115,95,95]) 170, .ref 6⟩, ⟨PyData.keyHash P (mkS [95,95,98,117,105,108,116,105,110,115,95,95]), .str (mkS [95,95,98,117,105,108,116,105,110,115,95,95]) 171, .ref 4⟩, ⟨PyData.keyHash P (mkS [95,95,102,105,108,101,95,95]), .str (mkS [95,95,102,105,108,101,95,95]) 173, .str (mkS [47,99,108,97,105,109,47,99,117,116,46,112,121]) 172⟩, ⟨PyData.keyHash P (mkS [95,95,99,97,99,104,101,100,95,95]), .str (mkS [95,95,99,97,99,104,101,100,95,95]) 174, .none⟩, ⟨PyData.keyHash P (mkS [114,103,98,95,116,111,95,104,108,115]), .str (mkS [114,103,98,95,116,111,95,104,108,115]) 207, .ref 21⟩, ⟨PyData.keyHash P (mkS [114,103,98,95,116,111,95,104,115,118]), .str (mkS [114,103,98,95,116,111,95,104,115,118]) 225, .ref 28⟩, ⟨PyData.keyHash P (mkS [95,115,116,114,105,112,95,112,97,100,100,105,110,103]), .str (mkS [95,115,116,114,105,112,95,112,97,100,100,105,110,103]) 237, .ref 35⟩]) 12, (Array.mk [])⟩
noncomputable def t5 (p : Program) (P : Params) : BT := ((t4 p P).ins 3 (o3_6 p P))
noncomputable def o3_7 (p : Program) (P : Params) : Obj := ⟨.type PySem.W.SL.s14018661285674007319x4, none, .dict (Array.mk [⟨PyData.keyHash P (mkS [95,95,110,97,109,101,95,95]), .str (mkS [95,95,110,97,109,101,95,95]) 165, .str (mkS [99,112,121,51,49,51,46,115,116,114,105,110,103,112,114,101,112]) 238⟩, ⟨PyData.keyHash P (mkS [95,95,100,111,99,95,95]), .str (mkS [95,95,100,111,99,95,95]) 166, .none⟩, ⟨PyData.keyHash P (mkS [95,95,112,97,99,107,97,103,101,95,95]), .str (mkS [95,95,112,97,99,107,97,103,101,95,95]) 167, .none⟩, ⟨PyData.keyHash P (mkS [95,95,108,111,97,100,101,114,95,95]), .str (mkS [95,95,108,111,97,100,101,114,95,95]) 168, .builtin PySem.W.SL.s7097527257260152453x26⟩, ⟨PyData.keyHash P (mkS [95,95,115,112,101,99,95,95]), .str (mkS [95,95,115,112,101,99,95,95]) 169, .none⟩, ⟨PyData.keyHash P (mkS [95,95,97,110,110,111,116,97,116,105,111,110,115,95,95]), .str (mkS [95,95,97,110,110,111,116,97,116,105,111,110,115,95,95]) 170, .ref 6⟩, ⟨PyData.keyHash P (mkS [95,95,98,117,105,108,116,105,110,115,95,95]), .str (mkS [95,95,98,117,105,108,116,105,110,115,95,95]) 171, .ref 4⟩, ⟨PyData.keyHash P (mkS [95,95,102,105,108,101,95,95]), .str (mkS [95,95,102,105,108,101,95,95]) 173, .str (mkS [47,99,108,97,105,109,47,99,117,116,46,112,121]) 172⟩, ⟨PyData.keyHash P (mkS [95,95,99,97,99,104,101,100,95,95]), .str (mkS [95,95,99,97,99,104,101,100,95,95]) 174, .none⟩, ⟨PyData.keyHash P (mkS [114,103,98,95,116,111,95,104,108,115]), .str (mkS [114,103,98,95,116,111,95,104,108,115]) 207, .ref 21⟩, ⟨PyData.keyHash P (mkS [114,103,98,95,116,111,95,104,115,118]), .str (mkS [114,103,98,95,116,111,95,104,115,118]) 225, .ref 28⟩, ⟨PyData.keyHash P (mkS [95,115,116,114,105,112,95,112,97,100,100,105,110,103]), .str (mkS [95,115,116,114,105,112,95,112,97,100,100,105,110,103]) 237, .ref 35⟩, ⟨PyData.keyHash P (mkS [98,49,95,115,101,116]), .str (mkS [98,49,95,115,101,116]) 299, .ref 43⟩]) 13, (Array.mk [])⟩
noncomputable def o36_0 (p : Program) (P : Params) : Obj := ⟨.type PySem.W.SL.s9222952809800978799x4, none, .seq (Array.mk [.int 173 240, .int 847 241, .int 6150 242, .int 6155 243, .int 6156 244, .int 6157 245, .int 8203 246, .int 8204 247, .int 8205 248, .int 8288 249, .int 65279 250]) 0, (Array.mk [])⟩
noncomputable def o37_0 (p : Program) (P : Params) : Obj := ⟨.type PySem.W.SL.s1438033511350832697x5, none, .fields (Array.mk [.int 65024 251, .int 65040 252, .int 1 253]), (Array.mk [])⟩
noncomputable def o38_0 (p : Program) (P : Params) : Obj := ⟨.type PySem.W.SL.s9222952809800978799x4, none, .seq (Array.mk [.int 65024 256, .int 65025 257, .int 65026 258, .int 65027 259, .int 65028 260, .int 65029 261, .int 65030 262, .int 65031 263, .int 65032 264, .int 65033 265, .int 65034 266, .int 65035 267, .int 65036 268, .int 65037 269, .int 65038 270, .int 65039 271]) 18, (Array.mk [])⟩
noncomputable def o39_0 (p : Program) (P : Params) : Obj := ⟨.type PySem.W.SL.s15992201931430999065x14, none, .fields (Array.mk [.int 65040 0, .int 0 0, .int 1 0]), (Array.mk [])⟩
noncomputable def o40_0 (p : Program) (P : Params) : Obj := ⟨.type PySem.W.SL.s2766695959194262286x5, none, .seq (Array.mk []) 0, (Array.mk [])⟩
noncomputable def o41_0 (p : Program) (P : Params) : Obj := ⟨.type PySem.W.SL.s5991306692159431302x13, none, .fields (Array.mk [.ref 40, .none, .none, .none, .bool false, .none]), (Array.mk [])⟩
noncomputable def o42_0 (p : Program) (P : Params) : Obj := ⟨.type PySem.W.SL.s9222952809800978799x4, none, .seq (Array.mk [.int 173 240, .int 847 241, .int 6150 242, .int 6155 243, .int 6156 244, .int 6157 245, .int 8203 246, .int 8204 247, .int 8205 248, .int 8288 249, .int 65279 250, .int 65024 256, .int 65025 257, .int 65026 258, .int 65027 259, .int 65028 260, .int 65029 261, .int 65030 262, .int 65031 263, .int 65032 264, .int 65033 265, .int 65034 266, .int 65035 267, .int 65036 268, .int 65037 269, .int 65038 270, .int 65039 271]) 0, (Array.mk [])⟩
noncomputable def o43_0 (p : Program) (P : Params) : Obj := ⟨.type PySem.W.SL.s3642769012341782148x3, none, .set (Array.mk [(65024, .int 65024 256), (65025, .int 65025 257), (65026, .int 65026 258), (65027, .int 65027 259), (65028, .int 65028 260), (65029, .int 65029 261), (6150, .int 6150 242), (65030, .int 65030 262), (65031, .int 65031 263), (65032, .int 65032 264), (65033, .int 65033 265), (6155, .int 6155 243), (6156, .int 6156 244), (6157, .int 6157 245), (8203, .int 8203 246), (8204, .int 8204 247), (8205, .int 8205 248), (65034, .int 65034 266), (65035, .int 65035 267), (65036, .int 65036 268), (65037, .int 65037 269), (65038, .int 65038 270), (65039, .int 65039 271), (173, .int 173 240), (847, .int 847 241), (8288, .int 8288 249), (65279, .int 65279 250)]) 29 ⟨127, Array.mk [0,1,2,3,4,5,6,7,8,9,10,11,12,13,14,15,16,17,18,19,20,21,22,45,79,96,127], Array.mk [], 0, !(P.followText "set-order"), 2, true⟩, (Array.mk [])⟩
noncomputable def o44_0 (p : Program) (P : Params) : Obj := ⟨.type PySem.W.SL.s3492446563574874994x13, none, .fields (Array.mk [.none, .int 27 0]), (Array.mk [])⟩
noncomputable def o45_0 (p : Program) (P : Params) : Obj := ⟨.type PySem.W.SL.s2766695959194262286x5, none, .seq (Array.mk []) 0, (Array.mk [])⟩
noncomputable def o46_0 (p : Program) (P : Params) : Obj := ⟨.type PySem.W.SL.s5991306692159431302x13, none, .fields (Array.mk [.ref 45, .none, .none, .none, .bool false, .none]), (Array.mk [])⟩
noncomputable def t6 (p : Program) (P : Params) : BT := (((((((((((((t5 p P).ins 3 (o3_7 p P)).ins 36 (o36_0 p P)).ins 37 (o37_0 p P)).ins 38 (o38_0 p P)).ins 39 (o39_0 p P)).ins 40 (o40_0 p P)).ins 41 (o41_0 p P)).ins 42 (o42_0 p P)).ins 43 (o43_0 p P)).ins 44 (o44_0 p P)).ins 45 (o45_0 p P)).ins 46 (o46_0 p P))
noncomputable def o3_8 (p : Program) (P : Params) : Obj := ⟨.type PySem.W.SL.s14018661285674007319x4, none, .dict (Array.mk [⟨PyData.keyHash P (mkS [95,95,110,97,109,101,95,95]), .str (mkS [95,95,110,97,109,101,95,95]) 165, .str (mkS [99,112,121,51,49,51,46,115,116,114,105,110,103,112,114,101,112]) 238⟩, ⟨PyData.keyHash P (mkS [95,95,100,111,99,95,95]), .str (mkS [95,95,100,111,99,95,95]) 166, .none⟩, ⟨PyData.keyHash P (mkS [95,95,112,97,99,107,97,103,101,95,95]), .str (mkS [95,95,112,97,99,107,97,103,101,95,95]) 167, .none⟩, ⟨PyData.keyHash P (mkS [95,95,108,111,97,100,101,114,95,95]), .str (mkS [95,95,108,111,97,100,101,114,95,95]) 168, .builtin PySem.W.SL.s7097527257260152453x26⟩, ⟨PyData.keyHash P (mkS [95,95,115,112,101,99,95,95]), .str (mkS [95,95,115,112,101,99,95,95]) 169, .none⟩, ⟨PyData.keyHash P (mkS [95,95,97,110,110,111,116,97,116,105,111,110,115,95,95]), .str (mkS [95,95,97,110,110,111,116,97,116,105,111,110,115,95,95]) 170, .ref 6⟩, ⟨PyData.keyHash P (mkS [95,95,98,117,105,108,116,105,110,115,95,95]), .str (mkS [95,95,98,117,105,108,116,105,110,115,95,95]) 171, .ref 4⟩, ⟨PyData.keyHash P (mkS [95,95,102,105,108,101,95,95]), .str (mkS [95,95,102,105,108,101,95,95]) 173, .str (mkS [47,99,108,97,105,109,47,99,117,116,46,112,121]) 172⟩, ⟨PyData.keyHash P (mkS [95,95,99,97,99,104,101,100,95,95]), .str (mkS [95,95,99,97,99,104,101,100,95,95]) 174, .none⟩, ⟨PyData.keyHash P (mkS [114,103,98,95,116,111,95,104,108,115]), .str (mkS [114,103,98,95,116,111,95,104,108,115]) 207, .ref 21⟩, ⟨PyData.keyHash P (mkS [114,103,98,95,116,111,95,104,115,118]), .str (mkS [114,103,98,95,116,111,95,104,115,118]) 225, .ref 28⟩, ⟨PyData.keyHash P (mkS [95,115,116,114,105,112,95,112,97,100,100,105,110,103]), .str (mkS [95,115,116,114,105,112,95,112,97,100,100,105,110,103]) 237, .ref 35⟩, ⟨PyData.keyHash P (mkS [98,49,95,115,101,116]), .str (mkS [98,49,95,115,101,116]) 299, .ref 43⟩, ⟨PyData.keyHash P (mkS [105,110,95,116,97,98,108,101,95,98,49]), .str (mkS [105,110,95,116,97,98,108,101,95,98,49]) 306, .ref 53⟩]) 14, (Array.mk [])⟩
noncomputable def o12_4 (p : Program) (P : Params) : Obj := ⟨.none, none, .fields (Array.mk [.int 2 0, .int 0 0, .ref 20, .int 25 0, .int 0 0, .ref 27, .int 45 0, .int 0 0, .ref 34, .int 57 0, .int 0 0, .ref 52]), (Array.mk [])⟩
noncomputable def o47_0 (p : Program) (P : Params) : Obj := ⟨.type PySem.W.SL.s2766695959194262286x5, none, .seq (Array.mk []) 0, (Array.mk [])⟩
noncomputable def o48_0 (p : Program) (P : Params) : Obj := ⟨.none, none, .fields (Array.mk []), (Array.mk [])⟩
noncomputable def o49_0 (p : Program) (P : Params) : Obj := ⟨.type PySem.W.SL.s2766695959194262286x5, none, .seq (Array.mk [.str (mkS [99,111,100,101]) 303]) 0, (Array.mk [])⟩
noncomputable def o50_0 (p : Program) (P : Params) : Obj := ⟨.type PySem.W.SL.s2766695959194262286x5, none, .seq (Array.mk []) 0, (Array.mk [])⟩
noncomputable def o51_0 (p : Program) (P : Params) : Obj := ⟨.none, none, .func { name := (mkS [105,110,95,116,97,98,108,101,95,98,49]), qualname := (mkS [105,110,95,116,97,98,108,101,95,98,49]), params := fa (stmtAt p 7), body := .stmts (fb (stmtAt p 7)), scope := fs (stmtAt p 7), globals := 0, closure := [], defaults := .none, kwdefaults := .none, doc := .none, pyModule := .none, annotations := none, code := .none, closureTuple := .none, builtins := 0 }, (Array.mk [])⟩
noncomputable def o52_0 (p : Program) (P : Params) : Obj := ⟨.type PySem.W.SL.s5856160107412720595x4, none, .fields (Array.mk [.str (mkS [105,110,95,116,97,98,108,101,95,98,49]) 300, .str (mkS [105,110,95,116,97,98,108,101,95,98,49]) 301, .str (mkS [47,99,108,97,105,109,47,99,117,116,46,112,121]) 302, .int 57 0, .int 1 0, .int 0 0, .int 0 0, .int 3 0, .ref 47, .bool true, .int 181 0, .ref 48, .none, .ref 49, .ref 50, .ref 51, .int 304 0, .int 57 0, .str (mkS [47,99,108,97,105,109,47,99,117,116,46,112,121]) 305]), (Array.mk [])⟩
noncomputable def o53_0 (p : Program) (P : Params) : Obj := ⟨.type PySem.W.SL.s7174869446012820540x8, none, .func { name := (mkS [105,110,95,116,97,98,108,101,95,98,49]), qualname := (mkS [105,110,95,116,97,98,108,101,95,98,49]), params := fa (stmtAt p 7), body := .stmts (fb (stmtAt p 7)), scope := fs (stmtAt p 7), globals := 3, closure := [], defaults := .none, kwdefaults := .none, doc := .none, pyModule := .str (mkS [99,112,121,51,49,51,46,115,116,114,105,110,103,112,114,101,112]) 238, annotations := none, code := .ref 52, closureTuple := .none, builtins := 0 }, (Array.mk [])⟩
noncomputable def t7 (p : Program) (P : Params) : BT := (.node (bo0 p P) (.node (bo1 p P) (.node (o3_8 p P) (.node (bo7 p P) (.node (o15_0 p P) (.node (o31_0 p P) .nil .nil) (.node (o47_0 p P) .nil .nil)) (.node (o23_0 p P) (.node (o39_0 p P) .nil .nil) .nil)) (.node (o11_0 p P) (.node (o19_0 p P) (.node (o35_0 p P) .nil .nil) (.node (o51_0 p P) .nil .nil)) (.node (o27_0 p P) (.node (o43_0 p P) .nil .nil) .nil))) (.node (bo5 p P) (.node (bo9 p P) (.node (o17_0 p P) (.node (o33_0 p P) .nil .nil) (.node (o49_0 p P) .nil .nil)) (.node (o25_0 p P) (.node (o41_0 p P) .nil .nil) .nil)) (.node (o13_0 p P) (.node (o21_0 p P) (.node (o37_0 p P) .nil .nil) (.node (o53_0 p P) .nil .nil)) (.node (o29_0 p P) (.node (o45_0 p P) .nil .nil) .nil)))) (.node (bo2 p P) (.node (bo4 p P) (.node (bo8 p P) (.node (o16_0 p P) (.node (o32_0 p P) .nil .nil) (.node (o48_0 p P) .nil .nil)) (.node (o24_0 p P) (.node (o40_0 p P) .nil .nil) .nil)) (.node (o12_4 p P) (.node (o20_0 p P) (.node (o36_0 p P) .nil .nil) (.node (o52_0 p P) .nil .nil)) (.node (o28_0 p P) (.node (o44_0 p P) .nil .nil) .nil))) (.node (bo6 p P) (.node (bo10 p P) (.node (o18_0 p P) (.node (o34_0 p P) .nil .nil) (.node (o50_0 p P) .nil .nil)) (.node (o26_0 p P) (.node (o42_0 p P) .nil .nil) .nil)) (.node (o14_0 p P) (.node (o22_0 p P) (.node (o38_0 p P) .nil .nil) .nil) (.node (o30_0 p P) (.node (o46_0 p P) .nil .nil) .nil)))))
theorem pc0 (w : World) (os : OsState) : RunE w 10 ⟨tB pq w.params, 15, {}, Array.mk [], {}, 187, os⟩ ⟨0, 0, 0, 0⟩ (twExecs [stmtAt pq 0] (envT pq)) ⟨t0 pq w.params, 15, {}, Array.mk [], {}, 189, os⟩ ⟨1, 0, 1, 8⟩ .next := by kernel_rfl
theorem pc1 (w : World) (os : OsState) : RunE w 42 ⟨t0 pq w.params, 15, {}, Array.mk [], {}, 189, os⟩ ⟨1, 0, 1, 8⟩ (twExecs [stmtAt pq 1] (envT pq)) ⟨t1 pq w.params, 22, {}, Array.mk [], {}, 208, os⟩ ⟨2, 0, 24, 20⟩ .next := by kernel_rfl
theorem pc2 (w : World) (os : OsState) : RunE w 41 ⟨t1 pq w.params, 22, {}, Array.mk [], {}, 208, os⟩ ⟨2, 0, 24, 20⟩ (twExecs [stmtAt pq 2] (envT pq)) ⟨t2 pq w.params, 29, {}, Array.mk [], {}, 226, os⟩ ⟨25, 0, 43, 20⟩ .next := by kernel_rfl
theorem pc3 (w : World) (os : OsState) : RunE w 10 ⟨t2 pq w.params, 29, {}, Array.mk [], {}, 226, os⟩ ⟨25, 0, 43, 20⟩ (twExecs [stmtAt pq 3] (envT pq)) ⟨t3 pq w.params, 29, {}, Array.mk [], {}, 228, os⟩ ⟨44, 0, 44, 8⟩ .next := by kernel_rfl
theorem pc4 (w : World) (os : OsState) : RunE w 33 ⟨t3 pq w.params, 29, {}, Array.mk [], {}, 228, os⟩ ⟨44, 0, 44, 8⟩ (twExecs [stmtAt pq 4] (envT pq)) ⟨t4 pq w.params, 36, {}, Array.mk [], {}, 238, os⟩ ⟨45, 0, 54, 27⟩ .next := by kernel_rfl
theorem pc5 (w : World) (os : OsState) : RunE w 10 ⟨t4 pq w.params, 36, {}, Array.mk [], {}, 238, os⟩ ⟨45, 0, 54, 27⟩ (twExecs [stmtAt pq 5] (envT pq)) ⟨t5 pq w.params, 36, {}, Array.mk [], {}, 240, os⟩ ⟨55, 0, 55, 8⟩ .next := by kernel_rfl
theorem pc6 (w : World) (os : OsState) : RunE w 999 ⟨t5 pq w.params, 36, {}, Array.mk [], {}, 240, os⟩ ⟨55, 0, 55, 8⟩ (twExecs [stmtAt pq 6] (envT pq)) ⟨t6 pq w.params, 47, {}, Array.mk [], {}, 300, os⟩ ⟨56, 0, 56, 6⟩ .next :=
  byRow2 "set-order" (P := fun w => RunE w 999 ⟨t5 pq w.params, 36, {}, Array.mk [], {}, 240, os⟩ ⟨55, 0, 55, 8⟩ (twExecs [stmtAt pq 6] (envT pq)) ⟨t6 pq w.params, 47, {}, Array.mk [], {}, 300, os⟩ ⟨56, 0, 56, 6⟩ .next) (fun w => byRow2 "special-get-raises" (P := fun w => RunE w 999 ⟨t5 pq w.params, 36, {}, Array.mk [], {}, 240, os⟩ ⟨55, 0, 55, 8⟩ (twExecs [stmtAt pq 6] (envT pq)) ⟨t6 pq w.params, 47, {}, Array.mk [], {}, 300, os⟩ ⟨56, 0, 56, 6⟩ .next) (fun w => by kernel_rfl) (fun w => by kernel_rfl) (w.withFollow "set-order" false)) (fun w => byRow2 "special-get-raises" (P := fun w => RunE w 999 ⟨t5 pq w.params, 36, {}, Array.mk [], {}, 240, os⟩ ⟨55, 0, 55, 8⟩ (twExecs [stmtAt pq 6] (envT pq)) ⟨t6 pq w.params, 47, {}, Array.mk [], {}, 300, os⟩ ⟨56, 0, 56, 6⟩ .next) (fun w => by kernel_rfl) (fun w => by kernel_rfl) (w.withFollow "set-order" true)) w
theorem pc7 (w : World) (os : OsState) : RunE w 30 ⟨t6 pq w.params, 47, {}, Array.mk [], {}, 300, os⟩ ⟨56, 0, 56, 6⟩ (twExecs [stmtAt pq 7] (envT pq)) ⟨t7 pq w.params, 54, {}, Array.mk [], {}, 307, os⟩ ⟨57, 0, 58, 30⟩ .next := by kernel_rfl
noncomputable abbrev twEval := PySem.W.Fast.tw14044960220447912780
noncomputable abbrev twSub := PySem.W.Fast.tw11913375310210876947
noncomputable def pairT (k : Option PySem.Expr) (v : PySem.Expr) : Sem Value × Sem Value :=
  (match k with | some k => twEval k (envT pq) | none => .pure .none, (twEval v (envT pq)).bind fun x => (Sem.at dpos .pure).bind fun _ => .pure x)
noncomputable def pairsT : List (Sem Value × Sem Value) := List.zipWith pairT (dKeys (stmtAt pq 8)) (dVals (stmtAt pq 8))
noncomputable def chunkT (j : Nat) : List (Sem Value × Sem Value) := (pairsT.drop (17 * j)).take 17
theorem items_eq : ∀ (ks : List (Option PySem.Expr)) (vs : List PySem.Expr), ks.all Option.isSome = true →
    (evalEachOpt ks (envT pq)).zip ((evalEach vs (envT pq)).map fun v => do let x ← v; standAt dpos; pure x) = (List.zipWith pairT ks vs).map sm
  | [], _, _ => rfl
  | k :: ks, [], _ => by
    show List.zip _ [] = _
    rw [List.zip_nil_right]; rfl
  | none :: ks, v :: vs, h => by cases h
  | some k :: ks, v :: vs, h => by
    have ih := items_eq ks vs (by simpa using h)
    have e : (some (eval k (envT pq)), (do let x ← eval v (envT pq); standAt dpos; pure x : Sem Value)) = sm (pairT (some k) v) := by
      show (some (eval k (envT pq)), (eval v (envT pq)).bind fun x => (Sem.at dpos .pure).bind fun _ => .pure x) = (some (twEval k (envT pq)), (twEval v (envT pq)).bind fun x => (Sem.at dpos .pure).bind fun _ => .pure x)
      rw [show twEval = eval from PySem.W.Fast.te14044960220447912780.symm]
    show (some (eval k (envT pq)), (do let x ← eval v (envT pq); standAt dpos; pure x : Sem Value)) :: _ = _
    rw [e]
    exact congrArg (sm (pairT (some k) v) :: ·) ih
noncomputable def mainO (k : Nat) : Obj := dictO ((dE pq).take (17 * k)) (17 * k)
noncomputable def subO (k : Nat) : Obj := dictO (((dE pq).drop (17 * k)).take 17) 17
noncomputable def TD : Nat → Params → BT
  | 0, P => (t7 pq P).ins 54 (mainO 1)
  | j + 1, P => ((TD j P).ins (55 + j) (subO (j + 1))).ins 54 (mainO (j + 2))
noncomputable def SD (j : Nat) (w : World) (os : OsState) : SharedT := ⟨TD j w.params, 55 + j, {}, Array.mk [], {}, 358 + 51 * j, os⟩
noncomputable def SM (j : Nat) (w : World) (os : OsState) : SharedT := ⟨(TD j w.params).ins (55 + j) (subO (j + 1)), 55 + j + 1, {}, Array.mk [], {}, 358 + 51 * (j + 1), os⟩
noncomputable abbrev refW {α : Type} (x : Sem α) (f : α → Addr) : Sem PySem.Fin := x.wrap (fun a => .pure (.done (.ret (.ref (f a))))) deadEnd id id
noncomputable abbrev SubRun (w : World) (os : OsState) (j : Nat) : Prop := RunG w 224 (SD j w os) dpos (refW ((twSub (chunkT (j + 1))).keep [.ref 54]) id) (SM j w os) dpos (.ret (.ref (55 + j)))
structure SubOk (w : World) (os : OsState) (j : Nat) : Prop where
  run : SubRun w os j
  main : ((TD j w.params).ins (55 + j) (subO (j + 1))).get 54 = some (mainO (j + 1))
  sub : ((TD j w.params).ins (55 + j) (subO (j + 1))).get (55 + j) = some (subO (j + 1))
theorem mkE_int : ∀ (n t : Nat) (ks : List (Option PySem.Expr)) (vs : List PySem.Expr), ∀ e ∈ mkE n t ks vs, IntE e
  | 0, t, k :: ks, v :: vs, e, h => by
    unfold mkE at h
    rcases List.mem_cons.mp h with rfl | h
    · exact ⟨_, _, _, rfl⟩
    · exact mkE_int 0 (t + 2) ks vs e h
  | n + 1, t, k :: ks, v :: vs, e, h => by
    unfold mkE at h
    rcases List.mem_cons.mp h with rfl | h
    · exact ⟨_, _, _, rfl⟩
    · exact mkE_int n (t + 3) ks vs e h
  | 0, _, [], _, e, h => by unfold mkE at h; cases h
  | n + 1, _, [], _, e, h => by unfold mkE at h; cases h
  | 0, _, _ :: _, [], e, h => by unfold mkE at h; cases h
  | n + 1, _, _ :: _, [], e, h => by unfold mkE at h; cases h
noncomputable def incr : List Int → Bool
  | [] => true
  | a :: l => match l with
    | [] => true
    | b :: _ => decide (a < b) && incr l
theorem incr_pw : ∀ {l : List Int}, incr l = true → l.Pairwise (· < ·)
  | [], _ => .nil
  | [a], _ => .cons (fun _ h => nomatch h) .nil
  | a :: b :: l, h => by
    obtain ⟨h1, h2⟩ := Bool.and_eq_true_iff.mp h
    have ih := incr_pw h2
    have h1 := of_decide_eq_true h1
    refine .cons (fun x hx => ?_) ih
    rcases List.mem_cons.mp hx with rfl | hx
    · exact h1
    · exact Int.lt_trans h1 ((List.pairwise_cons.mp ih).1 x hx)
theorem dE_len : (dE pq).length = 650 := by kernel_rfl
theorem pairs_len : pairsT.length = 650 := by kernel_rfl
theorem keys_some : (dKeys (stmtAt pq 8)).all Option.isSome = true := by kernel_rfl
theorem dE_incr : incr ((dE pq).map (·.hash)) = true := by kernel_rfl
theorem dE_nodup : ((dE pq).map (·.hash)).Nodup := (incr_pw dE_incr).imp fun h => Int.ne_of_lt h
theorem dE_int : ∀ e ∈ dE pq, IntE e := mkE_int _ _ _ _
theorem chunk_step {w : World} {os : OsState} {j : Nat} (hj : j < 37) (h : SubOk w os j) :
    Rn w (224 + (5 + 6 * 17)) (SD j w os) dpos (LS ddU.1 ((chunkT (j + 1)).map sm) ((some 54, []) : SV)) (SD (j + 1) w os) dpos (.yield ((some 54, []) : SV)) := by
  have hlen : (chunkT (j + 1)).length = 17 := by
    unfold chunkT
    rw [List.length_take, List.length_drop, pairs_len]; omega
  have hne : chunkT (j + 1) ≠ [] := fun e => by rw [e] at hlen; cases hlen
  generalize hr : (chunkT (j + 1)).dropLast = r
  generalize hx : (chunkT (j + 1)).getLast hne = x
  have e : chunkT (j + 1) = r ++ [x] := by rw [← hr, ← hx, List.dropLast_concat_getLast]
  have hrl : r.length = 16 := by rw [← hr, List.length_dropLast, hlen]
  have hs := h.run
  rw [SubRun, e] at hs
  rw [e, List.map_append, List.map_cons, List.map_nil, LS_acc (some 54) [sm x] r [] (by simp only [List.length_nil]; omega), List.nil_append]
  obtain ⟨g, hg⟩ := body_full_some 54
  show Rn w _ _ _ ((ddU.1 (sm x) (some 54, r)).bind _) _ _ _
  rw [hg r x hrl]
  have sub : Rn w 224 (SD j w os) dpos (PySem.holding [.ref 54] (subDict (r ++ [x]))) (SM j w os) dpos (55 + j) := by
    rw [PySem.W.Fast.te11913375310210876947]
    exact Rn.of_run (f := .ret (.ref (55 + j))) (res := fun a => .ret (.ref a)) (fun b hb => by cases hb; rfl) hs
  have lel : ((dE pq).drop (17 * (j + 1))).length = 650 - 17 * (j + 1) := by rw [List.length_drop, dE_len]
  have ll : (((dE pq).drop (17 * (j + 1))).take 17).length = 17 := by rw [List.length_take, lel]; omega
  have le : ((dE pq).take (17 * (j + 1))).length = 17 * (j + 1) := by rw [List.length_take, dE_len]; omega
  have ta : (dE pq).take (17 * (j + 1)) ++ ((dE pq).drop (17 * (j + 1))).take 17 = (dE pq).take (17 * (j + 2)) := by
    rw [show 17 * (j + 2) = 17 * (j + 1) + 17 by omega, ← List.take_add]
  have mg := merge_SR (S := SM j w os) (d := 54) (a := 55 + j) (es := (dE pq).take (17 * (j + 1))) (l := ((dE pq).drop (17 * (j + 1))).take 17) (n := 17 * (j + 1)) (m := 17)
    (Nat.ble_eq_true_of_le (show 54 + 1 ≤ 55 + j + 1 by omega)) h.main (Nat.ble_eq_true_of_le (show 55 + j + 1 ≤ 55 + j + 1 by omega)) h.sub (by show (55 + j : Nat) ≠ 54; omega) rfl (beq_eq_false_iff_ne.mpr (by show 55 + j ≠ 1; omega))
    (fun q => by rw [q] at le; simp only [List.length_nil] at le; omega) (fun e he => dE_int e (List.mem_of_mem_drop (List.mem_of_mem_take he)))
    (by rw [ta]; exact (dE_nodup.sublist ((List.take_sublist _ _).map _))) (by rw [le, ll]; omega)
  rw [ll, ta, show 17 * (j + 1) + 17 = 17 * (j + 2) by omega] at mg
  have es : ({ (SM j w os) with tree := (SM j w os).tree.ins 54 (dictO ((dE pq).take (17 * (j + 2))) (17 * (j + 2))) } : SharedT) = SD (j + 1) w os := rfl
  rw [es] at mg
  exact Rn.bind (n := 224 + (5 + 6 * 17)) (m := 0) (Rn.bind (n := 224 + (5 + 6 * 17)) (m := 0) (Rn.bind sub (Rn.bind (m := 0) (Rn.of_SR ((mg.holding _).onRaise _)) Rn.pure)) Rn.pure) Rn.pure
noncomputable def lastO : Obj := dictO (((dE pq).drop 646).take 17) 4
noncomputable def tDL (p : Program) (P : Params) : BT := ((TD 37 P).ins 92 lastO).ins 54 (dictO (dE pq) 650)
noncomputable def SL0 (T : BT) (os : OsState) : SharedT := ⟨T, 92, {}, Array.mk [], {}, 2245, os⟩
noncomputable def SL1 (T : BT) (os : OsState) : SharedT := ⟨T.ins 92 lastO, 93, {}, Array.mk [], {}, 2257, os⟩
noncomputable def SL2 (T : BT) (os : OsState) : SharedT := ⟨(T.ins 92 lastO).ins 54 (dictO (dE pq) 650), 93, {}, Array.mk [], {}, 2257, os⟩
structure LastOk (w : World) (T : BT) (os : OsState) : Prop where
  run : RunG w 54 (SL0 T os) dpos (refW ((twSub (pairsT.drop 646)).keep [.ref 54]) id) (SL1 T os) dpos (.ret (.ref 92))
  main : (T.ins 92 lastO).get 54 = some (mainO 38)
  sub : (T.ins 92 lastO).get 92 = some lastO
theorem last_len : (pairsT.drop 646).length = 4 := (List.length_drop ..).trans (by rw [pairs_len])
theorem lel : ((dE pq).drop 646).length = 4 := (List.length_drop ..).trans (by rw [dE_len])
theorem lll : (((dE pq).drop 646).take 17).length = 4 := (List.length_take ..).trans (by rw [lel]; rfl)
theorem lle : ((dE pq).take 646).length = 646 := (List.length_take ..).trans (by rw [dE_len]; rfl)
theorem lta : (dE pq).take 646 ++ ((dE pq).drop 646).take 17 = dE pq := by
  rw [← List.take_add, List.take_of_length_le (by rw [dE_len]; omega)]
theorem last_merge {w : World} {T : BT} {os : OsState} (h : LastOk w T os) : SR (SL1 T os) (mergeMapping 54 (.ref 92) false) (5 + 6 * 4) (SL2 T os) () := by
  have mg := merge_SR (S := SL1 T os) (d := 54) (a := 92) (es := (dE pq).take 646) (l := ((dE pq).drop 646).take 17) (n := 646) (m := 4)
    rfl h.main rfl h.sub (by show (92 : Nat) ≠ 54; omega) rfl rfl
    (fun q => by have := lle; rw [q] at this; simp only [List.length_nil] at this; omega) (fun e he => dE_int e (List.mem_of_mem_drop (List.mem_of_mem_take he)))
    (by rw [lta]; exact dE_nodup) (by rw [lle, lll]; omega)
  rw [lll, lta] at mg
  exact mg
theorem last_step {w : World} {T : BT} {os : OsState} (h : LastOk w T os) :
    Rn w (54 + (5 + 6 * 4)) (SL0 T os) dpos ((IT ddU.1 ((pairsT.drop 646).map sm) ((some 54, []) : SV)).bind ddU.2.1) (SL2 T os) dpos (.ref 54) := by
  have hlen := last_len
  have hs := h.run
  have mg := last_merge h
  generalize pairsT.drop 646 = r at hlen hs ⊢
  have hne : r ≠ [] := fun e => by rw [e] at hlen; cases hlen
  have e1 : IT ddU.1 (r.map sm) ((some 54, []) : SV) = .pure (some 54, r) := by
    have := IT_app ddU.1 (r.map sm) [] ((some 54, []) : SV)
    rw [List.append_nil] at this
    have e2 := LS_acc (some 54) [] r [] (by simp only [List.length_nil]; omega)
    rw [List.append_nil, List.nil_append] at e2
    rw [this, e2]
    rfl
  rw [e1]
  show Rn w _ _ _ (ddU.2.1 (some 54, r)) _ _ _
  obtain ⟨g, hg⟩ := post_some 54
  rw [hg r hne]
  have sub : Rn w 54 (SL0 T os) dpos (PySem.holding [.ref 54] (subDict r)) (SL1 T os) dpos 92 := by
    rw [PySem.W.Fast.te11913375310210876947]
    exact Rn.of_run (f := .ret (.ref 92)) (res := fun a => .ret (.ref a)) (fun b hb => by cases hb; rfl) hs
  exact Rn.bind (n := 54 + (5 + 6 * 4)) (m := 0) (Rn.bind sub (Rn.bind (n := 5 + 6 * 4) (m := 0) (Rn.of_SR ((mg.holding _).onRaise _)) Rn.pure)) Rn.pure
theorem chunks {w : World} {os : OsState} (hs : ∀ j, j < 37 → SubOk w os j) (hl : LastOk w (TD 37 w.params) os) : ∀ k j, j + k = 37 →
    Rn w ((224 + (5 + 6 * 17)) * k + (54 + (5 + 6 * 4))) (SD j w os) dpos ((IT ddU.1 ((pairsT.drop (17 * (j + 1))).map sm) ((some 54, []) : SV)).bind ddU.2.1) (SL2 (TD 37 w.params) os) dpos (.ref 54)
  | 0, j, h => by
    obtain rfl : j = 37 := h
    rw [Nat.mul_zero, Nat.zero_add]
    exact last_step hl
  | k + 1, j, h => by
    have ih := chunks hs hl k (j + 1) (by omega)
    have e : pairsT.drop (17 * (j + 1)) = chunkT (j + 1) ++ pairsT.drop (17 * (j + 1 + 1)) := by
      unfold chunkT
      rw [show 17 * (j + 1 + 1) = 17 * (j + 1) + 17 by omega, ← List.drop_drop, List.take_append_drop]
    rw [e, List.map_append, IT_app, PySem.Sem.bind_assoc, show (224 + (5 + 6 * 17)) * (k + 1) + (54 + (5 + 6 * 4)) = (224 + (5 + 6 * 17)) + ((224 + (5 + 6 * 17)) * k + (54 + (5 + 6 * 4))) by rw [Nat.mul_succ]; omega]
    exact Rn.bind (chunk_step (by omega) (hs j (by omega))) ih
noncomputable def o55_0 (p : Program) (P : Params) : Obj := ⟨.type PySem.W.SL.s14018661285674007319x4, none, .dict (Array.mk (((dE p).drop 17).take 17)) 17, (Array.mk [])⟩
noncomputable def o56_0 (p : Program) (P : Params) : Obj := ⟨.type PySem.W.SL.s14018661285674007319x4, none, .dict (Array.mk (((dE p).drop 34).take 17)) 17, (Array.mk [])⟩
noncomputable def o57_0 (p : Program) (P : Params) : Obj := ⟨.type PySem.W.SL.s14018661285674007319x4, none, .dict (Array.mk (((dE p).drop 51).take 17)) 17, (Array.mk [])⟩
noncomputable def o58_0 (p : Program) (P : Params) : Obj := ⟨.type PySem.W.SL.s14018661285674007319x4, none, .dict (Array.mk (((dE p).drop 68).take 17)) 17, (Array.mk [])⟩
noncomputable def o59_0 (p : Program) (P : Params) : Obj := ⟨.type PySem.W.SL.s14018661285674007319x4, none, .dict (Array.mk (((dE p).drop 85).take 17)) 17, (Array.mk [])⟩
noncomputable def o60_0 (p : Program) (P : Params) : Obj := ⟨.type PySem.W.SL.s14018661285674007319x4, none, .dict (Array.mk (((dE p).drop 102).take 17)) 17, (Array.mk [])⟩
noncomputable def o61_0 (p : Program) (P : Params) : Obj := ⟨.type PySem.W.SL.s14018661285674007319x4, none, .dict (Array.mk (((dE p).drop 119).take 17)) 17, (Array.mk [])⟩
noncomputable def o62_0 (p : Program) (P : Params) : Obj := ⟨.type PySem.W.SL.s14018661285674007319x4, none, .dict (Array.mk (((dE p).drop 136).take 17)) 17, (Array.mk [])⟩
noncomputable def o63_0 (p : Program) (P : Params) : Obj := ⟨.type PySem.W.SL.s14018661285674007319x4, none, .dict (Array.mk (((dE p).drop 153).take 17)) 17, (Array.mk [])⟩
noncomputable def o64_0 (p : Program) (P : Params) : Obj := ⟨.type PySem.W.SL.s14018661285674007319x4, none, .dict (Array.mk (((dE p).drop 170).take 17)) 17, (Array.mk [])⟩
noncomputable def o65_0 (p : Program) (P : Params) : Obj := ⟨.type PySem.W.SL.s14018661285674007319x4, none, .dict (Array.mk (((dE p).drop 187).take 17)) 17, (Array.mk [])⟩
noncomputable def o66_0 (p : Program) (P : Params) : Obj := ⟨.type PySem.W.SL.s14018661285674007319x4, none, .dict (Array.mk (((dE p).drop 204).take 17)) 17, (Array.mk [])⟩
noncomputable def o67_0 (p : Program) (P : Params) : Obj := ⟨.type PySem.W.SL.s14018661285674007319x4, none, .dict (Array.mk (((dE p).drop 221).take 17)) 17, (Array.mk [])⟩
noncomputable def o68_0 (p : Program) (P : Params) : Obj := ⟨.type PySem.W.SL.s14018661285674007319x4, none, .dict (Array.mk (((dE p).drop 238).take 17)) 17, (Array.mk [])⟩
noncomputable def o69_0 (p : Program) (P : Params) : Obj := ⟨.type PySem.W.SL.s14018661285674007319x4, none, .dict (Array.mk (((dE p).drop 255).take 17)) 17, (Array.mk [])⟩
noncomputable def o70_0 (p : Program) (P : Params) : Obj := ⟨.type PySem.W.SL.s14018661285674007319x4, none, .dict (Array.mk (((dE p).drop 272).take 17)) 17, (Array.mk [])⟩
noncomputable def o71_0 (p : Program) (P : Params) : Obj := ⟨.type PySem.W.SL.s14018661285674007319x4, none, .dict (Array.mk (((dE p).drop 289).take 17)) 17, (Array.mk [])⟩
noncomputable def o72_0 (p : Program) (P : Params) : Obj := ⟨.type PySem.W.SL.s14018661285674007319x4, none, .dict (Array.mk (((dE p).drop 306).take 17)) 17, (Array.mk [])⟩
noncomputable def o73_0 (p : Program) (P : Params) : Obj := ⟨.type PySem.W.SL.s14018661285674007319x4, none, .dict (Array.mk (((dE p).drop 323).take 17)) 17, (Array.mk [])⟩
noncomputable def o74_0 (p : Program) (P : Params) : Obj := ⟨.type PySem.W.SL.s14018661285674007319x4, none, .dict (Array.mk (((dE p).drop 340).take 17)) 17, (Array.mk [])⟩
noncomputable def o75_0 (p : Program) (P : Params) : Obj := ⟨.type PySem.W.SL.s14018661285674007319x4, none, .dict (Array.mk (((dE p).drop 357).take 17)) 17, (Array.mk [])⟩
noncomputable def o76_0 (p : Program) (P : Params) : Obj := ⟨.type PySem.W.SL.s14018661285674007319x4, none, .dict (Array.mk (((dE p).drop 374).take 17)) 17, (Array.mk [])⟩
noncomputable def o77_0 (p : Program) (P : Params) : Obj := ⟨.type PySem.W.SL.s14018661285674007319x4, none, .dict (Array.mk (((dE p).drop 391).take 17)) 17, (Array.mk [])⟩
noncomputable def o78_0 (p : Program) (P : Params) : Obj := ⟨.type PySem.W.SL.s14018661285674007319x4, none, .dict (Array.mk (((dE p).drop 408).take 17)) 17, (Array.mk [])⟩
noncomputable def o79_0 (p : Program) (P : Params) : Obj := ⟨.type PySem.W.SL.s14018661285674007319x4, none, .dict (Array.mk (((dE p).drop 425).take 17)) 17, (Array.mk [])⟩
noncomputable def o80_0 (p : Program) (P : Params) : Obj := ⟨.type PySem.W.SL.s14018661285674007319x4, none, .dict (Array.mk (((dE p).drop 442).take 17)) 17, (Array.mk [])⟩
noncomputable def o81_0 (p : Program) (P : Params) : Obj := ⟨.type PySem.W.SL.s14018661285674007319x4, none, .dict (Array.mk (((dE p).drop 459).take 17)) 17, (Array.mk [])⟩
noncomputable def o82_0 (p : Program) (P : Params) : Obj := ⟨.type PySem.W.SL.s14018661285674007319x4, none, .dict (Array.mk (((dE p).drop 476).take 17)) 17, (Array.mk [])⟩
noncomputable def o83_0 (p : Program) (P : Params) : Obj := ⟨.type PySem.W.SL.s14018661285674007319x4, none, .dict (Array.mk (((dE p).drop 493).take 17)) 17, (Array.mk [])⟩
noncomputable def o84_0 (p : Program) (P : Params) : Obj := ⟨.type PySem.W.SL.s14018661285674007319x4, none, .dict (Array.mk (((dE p).drop 510).take 17)) 17, (Array.mk [])⟩
noncomputable def o85_0 (p : Program) (P : Params) : Obj := ⟨.type PySem.W.SL.s14018661285674007319x4, none, .dict (Array.mk (((dE p).drop 527).take 17)) 17, (Array.mk [])⟩
noncomputable def o86_0 (p : Program) (P : Params) : Obj := ⟨.type PySem.W.SL.s14018661285674007319x4, none, .dict (Array.mk (((dE p).drop 544).take 17)) 17, (Array.mk [])⟩
noncomputable def o87_0 (p : Program) (P : Params) : Obj := ⟨.type PySem.W.SL.s14018661285674007319x4, none, .dict (Array.mk (((dE p).drop 561).take 17)) 17, (Array.mk [])⟩
noncomputable def o88_0 (p : Program) (P : Params) : Obj := ⟨.type PySem.W.SL.s14018661285674007319x4, none, .dict (Array.mk (((dE p).drop 578).take 17)) 17, (Array.mk [])⟩
noncomputable def o89_0 (p : Program) (P : Params) : Obj := ⟨.type PySem.W.SL.s14018661285674007319x4, none, .dict (Array.mk (((dE p).drop 595).take 17)) 17, (Array.mk [])⟩
noncomputable def o90_0 (p : Program) (P : Params) : Obj := ⟨.type PySem.W.SL.s14018661285674007319x4, none, .dict (Array.mk (((dE p).drop 612).take 17)) 17, (Array.mk [])⟩
noncomputable def o91_0 (p : Program) (P : Params) : Obj := ⟨.type PySem.W.SL.s14018661285674007319x4, none, .dict (Array.mk (((dE p).drop 629).take 17)) 17, (Array.mk [])⟩
noncomputable def o54_38 (p : Program) (P : Params) : Obj := ⟨.type PySem.W.SL.s14018661285674007319x4, none, .dict (Array.mk ((dE p).take 650)) 650, (Array.mk [])⟩
noncomputable def o92_0 (p : Program) (P : Params) : Obj := ⟨.type PySem.W.SL.s14018661285674007319x4, none, .dict (Array.mk (((dE p).drop 646).take 4)) 4, (Array.mk [])⟩
noncomputable def o3_9 (p : Program) (P : Params) : Obj := ⟨.type PySem.W.SL.s14018661285674007319x4, none, .dict (Array.mk [⟨PyData.keyHash P (mkS [95,95,110,97,109,101,95,95]), .str (mkS [95,95,110,97,109,101,95,95]) 165, .str (mkS [99,112,121,51,49,51,46,115,116,114,105,110,103,112,114,101,112]) 238⟩, ⟨PyData.keyHash P (mkS [95,95,100,111,99,95,95]), .str (mkS [95,95,100,111,99,95,95]) 166, .none⟩, ⟨PyData.keyHash P (mkS [95,95,112,97,99,107,97,103,101,95,95]), .str (mkS [95,95,112,97,99,107,97,103,101,95,95]) 167, .none⟩, ⟨PyData.keyHash P (mkS [95,95,108,111,97,100,101,114,95,95]), .str (mkS [95,95,108,111,97,100,101,114,95,95]) 168, .builtin PySem.W.SL.s7097527257260152453x26⟩, ⟨PyData.keyHash P (mkS [95,95,115,112,101,99,95,95]), .str (mkS [95,95,115,112,101,99,95,95]) 169, .none⟩, ⟨PyData.keyHash P (mkS [95,95,97,110,110,111,116,97,116,105,111,110,115,95,95]), .str (mkS [95,95,97,110,110,111,116,97,116,105,111,110,115,95,95]) 170, .ref 6⟩, ⟨PyData.keyHash P (mkS [95,95,98,117,105,108,116,105,110,115,95,95]), .str (mkS [95,95,98,117,105,108,116,105,110,115,95,95]) 171, .ref 4⟩, ⟨PyData.keyHash P (mkS [95,95,102,105,108,101,95,95]), .str (mkS [95,95,102,105,108,101,95,95]) 173, .str (mkS [47,99,108,97,105,109,47,99,117,116,46,112,121]) 172⟩, ⟨PyData.keyHash P (mkS [95,95,99,97,99,104,101,100,95,95]), .str (mkS [95,95,99,97,99,104,101,100,95,95]) 174, .none⟩, ⟨PyData.keyHash P (mkS [114,103,98,95,116,111,95,104,108,115]), .str (mkS [114,103,98,95,116,111,95,104,108,115]) 207, .ref 21⟩, ⟨PyData.keyHash P (mkS [114,103,98,95,116,111,95,104,115,118]), .str (mkS [114,103,98,95,116,111,95,104,115,118]) 225, .ref 28⟩, ⟨PyData.keyHash P (mkS [95,115,116,114,105,112,95,112,97,100,100,105,110,103]), .str (mkS [95,115,116,114,105,112,95,112,97,100,100,105,110,103]) 237, .ref 35⟩, ⟨PyData.keyHash P (mkS [98,49,95,115,101,116]), .str (mkS [98,49,95,115,101,116]) 299, .ref 43⟩, ⟨PyData.keyHash P (mkS [105,110,95,116,97,98,108,101,95,98,49]), .str (mkS [105,110,95,116,97,98,108,101,95,98,49]) 306, .ref 53⟩, ⟨PyData.keyHash P (mkS [98,51,95,101,120,99,101,112,116,105,111,110,115]), .str (mkS [98,51,95,101,120,99,101,112,116,105,111,110,115]) 2257, .ref 54⟩]) 15, (Array.mk [])⟩
noncomputable def t8 (p : Program) (P : Params) : BT := ((tDL p P).ins 3 (o3_9 p P))
noncomputable def o3_10 (p : Program) (P : Params) : Obj := ⟨.type PySem.W.SL.s14018661285674007319x4, none, .dict (Array.mk [⟨PyData.keyHash P (mkS [95,95,110,97,109,101,95,95]), .str (mkS [95,95,110,97,109,101,95,95]) 165, .str (mkS [99,112,121,51,49,51,46,115,116,114,105,110,103,112,114,101,112]) 238⟩, ⟨PyData.keyHash P (mkS [95,95,100,111,99,95,95]), .str (mkS [95,95,100,111,99,95,95]) 166, .none⟩, ⟨PyData.keyHash P (mkS [95,95,112,97,99,107,97,103,101,95,95]), .str (mkS [95,95,112,97,99,107,97,103,101,95,95]) 167, .none⟩, ⟨PyData.keyHash P (mkS [95,95,108,111,97,100,101,114,95,95]), .str (mkS [95,95,108,111,97,100,101,114,95,95]) 168, .builtin PySem.W.SL.s7097527257260152453x26⟩, ⟨PyData.keyHash P (mkS [95,95,115,112,101,99,95,95]), .str (mkS [95,95,115,112,101,99,95,95]) 169, .none⟩, ⟨PyData.keyHash P (mkS [95,95,97,110,110,111,116,97,116,105,111,110,115,95,95]), .str (mkS [95,95,97,110,110,111,116,97,116,105,111,110,115,95,95]) 170, .ref 6⟩, ⟨PyData.keyHash P (mkS [95,95,98,117,105,108,116,105,110,115,95,95]), .str (mkS [95,95,98,117,105,108,116,105,110,115,95,95]) 171, .ref 4⟩, ⟨PyData.keyHash P (mkS [95,95,102,105,108,101,95,95]), .str (mkS [95,95,102,105,108,101,95,95]) 173, .str (mkS [47,99,108,97,105,109,47,99,117,116,46,112,121]) 172⟩, ⟨PyData.keyHash P (mkS [95,95,99,97,99,104,101,100,95,95]), .str (mkS [95,95,99,97,99,104,101,100,95,95]) 174, .none⟩, ⟨PyData.keyHash P (mkS [114,103,98,95,116,111,95,104,108,115]), .str (mkS [114,103,98,95,116,111,95,104,108,115]) 207, .ref 21⟩, ⟨PyData.keyHash P (mkS [114,103,98,95,116,111,95,104,115,118]), .str (mkS [114,103,98,95,116,111,95,104,115,118]) 225, .ref 28⟩, ⟨PyData.keyHash P (mkS [95,115,116,114,105,112,95,112,97,100,100,105,110,103]), .str (mkS [95,115,116,114,105,112,95,112,97,100,100,105,110,103]) 237, .ref 35⟩, ⟨PyData.keyHash P (mkS [98,49,95,115,101,116]), .str (mkS [98,49,95,115,101,116]) 299, .ref 43⟩, ⟨PyData.keyHash P (mkS [105,110,95,116,97,98,108,101,95,98,49]), .str (mkS [105,110,95,116,97,98,108,101,95,98,49]) 306, .ref 53⟩, ⟨PyData.keyHash P (mkS [98,51,95,101,120,99,101,112,116,105,111,110,115]), .str (mkS [98,51,95,101,120,99,101,112,116,105,111,110,115]) 2257, .ref 54⟩, ⟨PyData.keyHash P (mkS [109,97,112,95,116,97,98,108,101,95,98,51]), .str (mkS [109,97,112,95,116,97,98,108,101,95,98,51]) 2265, .ref 99⟩]) 16, (Array.mk [])⟩
noncomputable def o12_5 (p : Program) (P : Params) : Obj := ⟨.none, none, .fields (Array.mk [.int 2 0, .int 0 0, .ref 20, .int 25 0, .int 0 0, .ref 27, .int 45 0, .int 0 0, .ref 34, .int 57 0, .int 0 0, .ref 52, .int 60 0, .int 0 0, .ref 98]), (Array.mk [])⟩
noncomputable def o93_0 (p : Program) (P : Params) : Obj := ⟨.type PySem.W.SL.s2766695959194262286x5, none, .seq (Array.mk []) 0, (Array.mk [])⟩
noncomputable def o94_0 (p : Program) (P : Params) : Obj := ⟨.none, none, .fields (Array.mk []), (Array.mk [])⟩
noncomputable def o95_0 (p : Program) (P : Params) : Obj := ⟨.type PySem.W.SL.s2766695959194262286x5, none, .seq (Array.mk [.str (mkS [99,111,100,101]) 2261, .str (mkS [114]) 2262]) 0, (Array.mk [])⟩
noncomputable def o96_0 (p : Program) (P : Params) : Obj := ⟨.type PySem.W.SL.s2766695959194262286x5, none, .seq (Array.mk []) 0, (Array.mk [])⟩
noncomputable def o97_0 (p : Program) (P : Params) : Obj := ⟨.none, none, .func { name := (mkS [109,97,112,95,116,97,98,108,101,95,98,51]), qualname := (mkS [109,97,112,95,116,97,98,108,101,95,98,51]), params := fa (stmtAt p 9), body := .stmts (fb (stmtAt p 9)), scope := fs (stmtAt p 9), globals := 0, closure := [], defaults := .none, kwdefaults := .none, doc := .none, pyModule := .none, annotations := none, code := .none, closureTuple := .none, builtins := 0 }, (Array.mk [])⟩
noncomputable def o98_0 (p : Program) (P : Params) : Obj := ⟨.type PySem.W.SL.s5856160107412720595x4, none, .fields (Array.mk [.str (mkS [109,97,112,95,116,97,98,108,101,95,98,51]) 2258, .str (mkS [109,97,112,95,116,97,98,108,101,95,98,51]) 2259, .str (mkS [47,99,108,97,105,109,47,99,117,116,46,112,121]) 2260, .int 60 0, .int 1 0, .int 0 0, .int 0 0, .int 3 0, .ref 93, .bool true, .int 181 0, .ref 94, .none, .ref 95, .ref 96, .ref 97, .int 2263 0, .int 60 0, .str (mkS [47,99,108,97,105,109,47,99,117,116,46,112,121]) 2264]), (Array.mk [])⟩
noncomputable def o99_0 (p : Program) (P : Params) : Obj := ⟨.type PySem.W.SL.s7174869446012820540x8, none, .func { name := (mkS [109,97,112,95,116,97,98,108,101,95,98,51]), qualname := (mkS [109,97,112,95,116,97,98,108,101,95,98,51]), params := fa (stmtAt p 9), body := .stmts (fb (stmtAt p 9)), scope := fs (stmtAt p 9), globals := 3, closure := [], defaults := .none, kwdefaults := .none, doc := .none, pyModule := .str (mkS [99,112,121,51,49,51,46,115,116,114,105,110,103,112,114,101,112]) 238, annotations := none, code := .ref 98, closureTuple := .none, builtins := 0 }, (Array.mk [])⟩
noncomputable def t9 (p : Program) (P : Params) : BT := ((((((((((t8 p P).ins 3 (o3_10 p P)).ins 12 (o12_5 p P)).ins 93 (o93_0 p P)).ins 94 (o94_0 p P)).ins 95 (o95_0 p P)).ins 96 (o96_0 p P)).ins 97 (o97_0 p P)).ins 98 (o98_0 p P)).ins 99 (o99_0 p P))
noncomputable def o3_11 (p : Program) (P : Params) : Obj := ⟨.type PySem.W.SL.s14018661285674007319x4, none, .dict (Array.mk [⟨PyData.keyHash P (mkS [95,95,110,97,109,101,95,95]), .str (mkS [95,95,110,97,109,101,95,95]) 165, .str (mkS [99,112,121,51,49,51,46,115,116,114,105,110,103,112,114,101,112]) 238⟩, ⟨PyData.keyHash P (mkS [95,95,100,111,99,95,95]), .str (mkS [95,95,100,111,99,95,95]) 166, .none⟩, ⟨PyData.keyHash P (mkS [95,95,112,97,99,107,97,103,101,95,95]), .str (mkS [95,95,112,97,99,107,97,103,101,95,95]) 167, .none⟩, ⟨PyData.keyHash P (mkS [95,95,108,111,97,100,101,114,95,95]), .str (mkS [95,95,108,111,97,100,101,114,95,95]) 168, .builtin PySem.W.SL.s7097527257260152453x26⟩, ⟨PyData.keyHash P (mkS [95,95,115,112,101,99,95,95]), .str (mkS [95,95,115,112,101,99,95,95]) 169, .none⟩, ⟨PyData.keyHash P (mkS [95,95,97,110,110,111,116,97,116,105,111,110,115,95,95]), .str (mkS [95,95,97,110,110,111,116,97,116,105,111,110,115,95,95]) 170, .ref 6⟩, ⟨PyData.keyHash P (mkS [95,95,98,117,105,108,116,105,110,115,95,95]), .str (mkS [95,95,98,117,105,108,116,105,110,115,95,95]) 171, .ref 4⟩, ⟨PyData.keyHash P (mkS [95,95,102,105,108,101,95,95]), .str (mkS [95,95,102,105,108,101,95,95]) 173, .str (mkS [47,99,108,97,105,109,47,99,117,116,46,112,121]) 172⟩, ⟨PyData.keyHash P (mkS [95,95,99,97,99,104,101,100,95,95]), .str (mkS [95,95,99,97,99,104,101,100,95,95]) 174, .none⟩, ⟨PyData.keyHash P (mkS [114,103,98,95,116,111,95,104,108,115]), .str (mkS [114,103,98,95,116,111,95,104,108,115]) 207, .ref 21⟩, ⟨PyData.keyHash P (mkS [114,103,98,95,116,111,95,104,115,118]), .str (mkS [114,103,98,95,116,111,95,104,115,118]) 225, .ref 28⟩, ⟨PyData.keyHash P (mkS [95,115,116,114,105,112,95,112,97,100,100,105,110,103]), .str (mkS [95,115,116,114,105,112,95,112,97,100,100,105,110,103]) 237, .ref 35⟩, ⟨PyData.keyHash P (mkS [98,49,95,115,101,116]), .str (mkS [98,49,95,115,101,116]) 299, .ref 43⟩, ⟨PyData.keyHash P (mkS [105,110,95,116,97,98,108,101,95,98,49]), .str (mkS [105,110,95,116,97,98,108,101,95,98,49]) 306, .ref 53⟩, ⟨PyData.keyHash P (mkS [98,51,95,101,120,99,101,112,116,105,111,110,115]), .str (mkS [98,51,95,101,120,99,101,112,116,105,111,110,115]) 2257, .ref 54⟩, ⟨PyData.keyHash P (mkS [109,97,112,95,116,97,98,108,101,95,98,51]), .str (mkS [109,97,112,95,116,97,98,108,101,95,98,51]) 2265, .ref 99⟩, ⟨PyData.keyHash P (mkS [105,110,95,116,97,98,108,101,95,99,49,49]), .str (mkS [105,110,95,116,97,98,108,101,95,99,49,49]) 2272, .ref 106⟩]) 17, (Array.mk [])⟩
noncomputable def o12_6 (p : Program) (P : Params) : Obj := ⟨.none, none, .fields (Array.mk [.int 2 0, .int 0 0, .ref 20, .int 25 0, .int 0 0, .ref 27, .int 45 0, .int 0 0, .ref 34, .int 57 0, .int 0 0, .ref 52, .int 60 0, .int 0 0, .ref 98, .int 65 0, .int 0 0, .ref 105]), (Array.mk [])⟩
noncomputable def o100_0 (p : Program) (P : Params) : Obj := ⟨.type PySem.W.SL.s2766695959194262286x5, none, .seq (Array.mk []) 0, (Array.mk [])⟩
noncomputable def o101_0 (p : Program) (P : Params) : Obj := ⟨.none, none, .fields (Array.mk []), (Array.mk [])⟩
noncomputable def o102_0 (p : Program) (P : Params) : Obj := ⟨.type PySem.W.SL.s2766695959194262286x5, none, .seq (Array.mk [.str (mkS [99,111,100,101]) 2269]) 0, (Array.mk [])⟩
noncomputable def o103_0 (p : Program) (P : Params) : Obj := ⟨.type PySem.W.SL.s2766695959194262286x5, none, .seq (Array.mk []) 0, (Array.mk [])⟩
noncomputable def o104_0 (p : Program) (P : Params) : Obj := ⟨.none, none, .func { name := (mkS [105,110,95,116,97,98,108,101,95,99,49,49]), qualname := (mkS [105,110,95,116,97,98,108,101,95,99,49,49]), params := fa (stmtAt p 10), body := .stmts (fb (stmtAt p 10)), scope := fs (stmtAt p 10), globals := 0, closure := [], defaults := .none, kwdefaults := .none, doc := .none, pyModule := .none, annotations := none, code := .none, closureTuple := .none, builtins := 0 }, (Array.mk [])⟩
noncomputable def o105_0 (p : Program) (P : Params) : Obj := ⟨.type PySem.W.SL.s5856160107412720595x4, none, .fields (Array.mk [.str (mkS [105,110,95,116,97,98,108,101,95,99,49,49]) 2266, .str (mkS [105,110,95,116,97,98,108,101,95,99,49,49]) 2267, .str (mkS [47,99,108,97,105,109,47,99,117,116,46,112,121]) 2268, .int 65 0, .int 1 0, .int 0 0, .int 0 0, .int 3 0, .ref 100, .bool true, .int 181 0, .ref 101, .none, .ref 102, .ref 103, .ref 104, .int 2270 0, .int 65 0, .str (mkS [47,99,108,97,105,109,47,99,117,116,46,112,121]) 2271]), (Array.mk [])⟩
noncomputable def o106_0 (p : Program) (P : Params) : Obj := ⟨.type PySem.W.SL.s7174869446012820540x8, none, .func { name := (mkS [105,110,95,116,97,98,108,101,95,99,49,49]), qualname := (mkS [105,110,95,116,97,98,108,101,95,99,49,49]), params := fa (stmtAt p 10), body := .stmts (fb (stmtAt p 10)), scope := fs (stmtAt p 10), globals := 3, closure := [], defaults := .none, kwdefaults := .none, doc := .none, pyModule := .str (mkS [99,112,121,51,49,51,46,115,116,114,105,110,103,112,114,101,112]) 238, annotations := none, code := .ref 105, closureTuple := .none, builtins := 0 }, (Array.mk [])⟩
noncomputable def t10 (p : Program) (P : Params) : BT := ((((((((((t9 p P).ins 3 (o3_11 p P)).ins 12 (o12_6 p P)).ins 100 (o100_0 p P)).ins 101 (o101_0 p P)).ins 102 (o102_0 p P)).ins 103 (o103_0 p P)).ins 104 (o104_0 p P)).ins 105 (o105_0 p P)).ins 106 (o106_0 p P))
noncomputable def o3_12 (p : Program) (P : Params) : Obj := ⟨.type PySem.W.SL.s14018661285674007319x4, none, .dict (Array.mk [⟨PyData.keyHash P (mkS [95,95,110,97,109,101,95,95]), .str (mkS [95,95,110,97,109,101,95,95]) 165, .str (mkS [108,97,119,95,116,112,48,48,51,50,95,48,49]) 2273⟩, ⟨PyData.keyHash P (mkS [95,95,100,111,99,95,95]), .str (mkS [95,95,100,111,99,95,95]) 166, .none⟩, ⟨PyData.keyHash P (mkS [95,95,112,97,99,107,97,103,101,95,95]), .str (mkS [95,95,112,97,99,107,97,103,101,95,95]) 167, .none⟩, ⟨PyData.keyHash P (mkS [95,95,108,111,97,100,101,114,95,95]), .str (mkS [95,95,108,111,97,100,101,114,95,95]) 168, .builtin PySem.W.SL.s7097527257260152453x26⟩, ⟨PyData.keyHash P (mkS [95,95,115,112,101,99,95,95]), .str (mkS [95,95,115,112,101,99,95,95]) 169, .none⟩, ⟨PyData.keyHash P (mkS [95,95,97,110,110,111,116,97,116,105,111,110,115,95,95]), .str (mkS [95,95,97,110,110,111,116,97,116,105,111,110,115,95,95]) 170, .ref 6⟩, ⟨PyData.keyHash P (mkS [95,95,98,117,105,108,116,105,110,115,95,95]), .str (mkS [95,95,98,117,105,108,116,105,110,115,95,95]) 171, .ref 4⟩, ⟨PyData.keyHash P (mkS [95,95,102,105,108,101,95,95]), .str (mkS [95,95,102,105,108,101,95,95]) 173, .str (mkS [47,99,108,97,105,109,47,99,117,116,46,112,121]) 172⟩, ⟨PyData.keyHash P (mkS [95,95,99,97,99,104,101,100,95,95]), .str (mkS [95,95,99,97,99,104,101,100,95,95]) 174, .none⟩, ⟨PyData.keyHash P (mkS [114,103,98,95,116,111,95,104,108,115]), .str (mkS [114,103,98,95,116,111,95,104,108,115]) 207, .ref 21⟩, ⟨PyData.keyHash P (mkS [114,103,98,95,116,111,95,104,115,118]), .str (mkS [114,103,98,95,116,111,95,104,115,118]) 225, .ref 28⟩, ⟨PyData.keyHash P (mkS [95,115,116,114,105,112,95,112,97,100,100,105,110,103]), .str (mkS [95,115,116,114,105,112,95,112,97,100,100,105,110,103]) 237, .ref 35⟩, ⟨PyData.keyHash P (mkS [98,49,95,115,101,116]), .str (mkS [98,49,95,115,101,116]) 299, .ref 43⟩, ⟨PyData.keyHash P (mkS [105,110,95,116,97,98,108,101,95,98,49]), .str (mkS [105,110,95,116,97,98,108,101,95,98,49]) 306, .ref 53⟩, ⟨PyData.keyHash P (mkS [98,51,95,101,120,99,101,112,116,105,111,110,115]), .str (mkS [98,51,95,101,120,99,101,112,116,105,111,110,115]) 2257, .ref 54⟩, ⟨PyData.keyHash P (mkS [109,97,112,95,116,97,98,108,101,95,98,51]), .str (mkS [109,97,112,95,116,97,98,108,101,95,98,51]) 2265, .ref 99⟩, ⟨PyData.keyHash P (mkS [105,110,95,116,97,98,108,101,95,99,49,49]), .str (mkS [105,110,95,116,97,98,108,101,95,99,49,49]) 2272, .ref 106⟩]) 17, (Array.mk [])⟩
noncomputable def t11 (p : Program) (P : Params) : BT := (.node (bo0 p P) (.node (bo1 p P) (.node (o3_12 p P) (.node (bo7 p P) (.node (o15_0 p P) (.node (o31_0 p P) (.node (o63_0 p P) .nil .nil) (.node (o95_0 p P) .nil .nil)) (.node (o47_0 p P) (.node (o79_0 p P) .nil .nil) .nil)) (.node (o23_0 p P) (.node (o39_0 p P) (.node (o71_0 p P) .nil .nil) (.node (o103_0 p P) .nil .nil)) (.node (o55_0 p P) (.node (o87_0 p P) .nil .nil) .nil))) (.node (o11_0 p P) (.node (o19_0 p P) (.node (o35_0 p P) (.node (o67_0 p P) .nil .nil) (.node (o99_0 p P) .nil .nil)) (.node (o51_0 p P) (.node (o83_0 p P) .nil .nil) .nil)) (.node (o27_0 p P) (.node (o43_0 p P) (.node (o75_0 p P) .nil .nil) .nil) (.node (o59_0 p P) (.node (o91_0 p P) .nil .nil) .nil)))) (.node (bo5 p P) (.node (bo9 p P) (.node (o17_0 p P) (.node (o33_0 p P) (.node (o65_0 p P) .nil .nil) (.node (o97_0 p P) .nil .nil)) (.node (o49_0 p P) (.node (o81_0 p P) .nil .nil) .nil)) (.node (o25_0 p P) (.node (o41_0 p P) (.node (o73_0 p P) .nil .nil) (.node (o105_0 p P) .nil .nil)) (.node (o57_0 p P) (.node (o89_0 p P) .nil .nil) .nil))) (.node (o13_0 p P) (.node (o21_0 p P) (.node (o37_0 p P) (.node (o69_0 p P) .nil .nil) (.node (o101_0 p P) .nil .nil)) (.node (o53_0 p P) (.node (o85_0 p P) .nil .nil) .nil)) (.node (o29_0 p P) (.node (o45_0 p P) (.node (o77_0 p P) .nil .nil) .nil) (.node (o61_0 p P) (.node (o93_0 p P) .nil .nil) .nil))))) (.node (bo2 p P) (.node (bo4 p P) (.node (bo8 p P) (.node (o16_0 p P) (.node (o32_0 p P) (.node (o64_0 p P) .nil .nil) (.node (o96_0 p P) .nil .nil)) (.node (o48_0 p P) (.node (o80_0 p P) .nil .nil) .nil)) (.node (o24_0 p P) (.node (o40_0 p P) (.node (o72_0 p P) .nil .nil) (.node (o104_0 p P) .nil .nil)) (.node (o56_0 p P) (.node (o88_0 p P) .nil .nil) .nil))) (.node (o12_6 p P) (.node (o20_0 p P) (.node (o36_0 p P) (.node (o68_0 p P) .nil .nil) (.node (o100_0 p P) .nil .nil)) (.node (o52_0 p P) (.node (o84_0 p P) .nil .nil) .nil)) (.node (o28_0 p P) (.node (o44_0 p P) (.node (o76_0 p P) .nil .nil) .nil) (.node (o60_0 p P) (.node (o92_0 p P) .nil .nil) .nil)))) (.node (bo6 p P) (.node (bo10 p P) (.node (o18_0 p P) (.node (o34_0 p P) (.node (o66_0 p P) .nil .nil) (.node (o98_0 p P) .nil .nil)) (.node (o50_0 p P) (.node (o82_0 p P) .nil .nil) .nil)) (.node (o26_0 p P) (.node (o42_0 p P) (.node (o74_0 p P) .nil .nil) (.node (o106_0 p P) .nil .nil)) (.node (o58_0 p P) (.node (o90_0 p P) .nil .nil) .nil))) (.node (o14_0 p P) (.node (o22_0 p P) (.node (o38_0 p P) (.node (o70_0 p P) .nil .nil) (.node (o102_0 p P) .nil .nil)) (.node (o54_38 p P) (.node (o86_0 p P) .nil .nil) .nil)) (.node (o30_0 p P) (.node (o46_0 p P) (.node (o78_0 p P) .nil .nil) .nil) (.node (o62_0 p P) (.node (o94_0 p P) .nil .nil) .nil))))))
noncomputable def o3_13 (p : Program) (P : Params) : Obj := ⟨.type PySem.W.SL.s14018661285674007319x4, none, .dict (Array.mk [⟨PyData.keyHash P (mkS [95,95,110,97,109,101,95,95]), .str (mkS [95,95,110,97,109,101,95,95]) 165, .str (mkS [108,97,119,95,116,112,48,48,51,50,95,48,49]) 2273⟩, ⟨PyData.keyHash P (mkS [95,95,100,111,99,95,95]), .str (mkS [95,95,100,111,99,95,95]) 166, .none⟩, ⟨PyData.keyHash P (mkS [95,95,112,97,99,107,97,103,101,95,95]), .str (mkS [95,95,112,97,99,107,97,103,101,95,95]) 167, .none⟩, ⟨PyData.keyHash P (mkS [95,95,108,111,97,100,101,114,95,95]), .str (mkS [95,95,108,111,97,100,101,114,95,95]) 168, .builtin PySem.W.SL.s7097527257260152453x26⟩, ⟨PyData.keyHash P (mkS [95,95,115,112,101,99,95,95]), .str (mkS [95,95,115,112,101,99,95,95]) 169, .none⟩, ⟨PyData.keyHash P (mkS [95,95,97,110,110,111,116,97,116,105,111,110,115,95,95]), .str (mkS [95,95,97,110,110,111,116,97,116,105,111,110,115,95,95]) 170, .ref 6⟩, ⟨PyData.keyHash P (mkS [95,95,98,117,105,108,116,105,110,115,95,95]), .str (mkS [95,95,98,117,105,108,116,105,110,115,95,95]) 171, .ref 4⟩, ⟨PyData.keyHash P (mkS [95,95,102,105,108,101,95,95]), .str (mkS [95,95,102,105,108,101,95,95]) 173, .str (mkS [47,99,108,97,105,109,47,99,117,116,46,112,121]) 172⟩, ⟨PyData.keyHash P (mkS [95,95,99,97,99,104,101,100,95,95]), .str (mkS [95,95,99,97,99,104,101,100,95,95]) 174, .none⟩, ⟨PyData.keyHash P (mkS [114,103,98,95,116,111,95,104,108,115]), .str (mkS [114,103,98,95,116,111,95,104,108,115]) 207, .ref 21⟩, ⟨PyData.keyHash P (mkS [114,103,98,95,116,111,95,104,115,118]), .str (mkS [114,103,98,95,116,111,95,104,115,118]) 225, .ref 28⟩, ⟨PyData.keyHash P (mkS [95,115,116,114,105,112,95,112,97,100,100,105,110,103]), .str (mkS [95,115,116,114,105,112,95,112,97,100,100,105,110,103]) 237, .ref 35⟩, ⟨PyData.keyHash P (mkS [98,49,95,115,101,116]), .str (mkS [98,49,95,115,101,116]) 299, .ref 43⟩, ⟨PyData.keyHash P (mkS [105,110,95,116,97,98,108,101,95,98,49]), .str (mkS [105,110,95,116,97,98,108,101,95,98,49]) 306, .ref 53⟩, ⟨PyData.keyHash P (mkS [98,51,95,101,120,99,101,112,116,105,111,110,115]), .str (mkS [98,51,95,101,120,99,101,112,116,105,111,110,115]) 2257, .ref 54⟩, ⟨PyData.keyHash P (mkS [109,97,112,95,116,97,98,108,101,95,98,51]), .str (mkS [109,97,112,95,116,97,98,108,101,95,98,51]) 2265, .ref 99⟩, ⟨PyData.keyHash P (mkS [105,110,95,116,97,98,108,101,95,99,49,49]), .str (mkS [105,110,95,116,97,98,108,101,95,99,49,49]) 2272, .ref 106⟩, ⟨PyData.keyHash P (mkS [95,108,97,119,95,100,114,97,119,115]), .str (mkS [95,108,97,119,95,100,114,97,119,115]) 2280, .ref 111⟩]) 18, (Array.mk [])⟩
noncomputable def o12_7 (p : Program) (P : Params) : Obj := ⟨.none, none, .fields (Array.mk [.int 2 0, .int 0 0, .ref 20, .int 25 0, .int 0 0, .ref 27, .int 45 0, .int 0 0, .ref 34, .int 57 0, .int 0 0, .ref 52, .int 60 0, .int 0 0, .ref 98, .int 65 0, .int 0 0, .ref 105, .int 68 0, .int 0 0, .ref 110]), (Array.mk [])⟩
noncomputable def o107_0 (p : Program) (P : Params) : Obj := ⟨.type PySem.W.SL.s2766695959194262286x5, none, .seq (Array.mk []) 0, (Array.mk [])⟩
noncomputable def o108_0 (p : Program) (P : Params) : Obj := ⟨.none, none, .fields (Array.mk []), (Array.mk [])⟩
noncomputable def o109_0 (p : Program) (P : Params) : Obj := ⟨.none, none, .func { name := (mkS [95,108,97,119,95,100,114,97,119,115]), qualname := (mkS [95,108,97,119,95,100,114,97,119,115]), params := fa (stmtAt p 12), body := .stmts (fb (stmtAt p 12)), scope := fs (stmtAt p 12), globals := 0, closure := [], defaults := .none, kwdefaults := .none, doc := .none, pyModule := .none, annotations := none, code := .none, closureTuple := .none, builtins := 0 }, (Array.mk [])⟩
noncomputable def o110_0 (p : Program) (P : Params) : Obj := ⟨.type PySem.W.SL.s5856160107412720595x4, none, .fields (Array.mk [.str (mkS [95,108,97,119,95,100,114,97,119,115]) 2275, .str (mkS [95,108,97,119,95,100,114,97,119,115]) 2276, .str (mkS [47,99,108,97,105,109,47,99,117,116,46,112,121]) 2277, .int 68 0, .int 2 0, .int 0 0, .int 0 0, .int 3 0, .ref 107, .bool true, .int 181 0, .ref 108, .none, .none, .none, .ref 109, .int 2278 0, .int 68 0, .str (mkS [47,99,108,97,105,109,47,99,117,116,46,112,121]) 2279]), (Array.mk [])⟩
noncomputable def o111_0 (p : Program) (P : Params) : Obj := ⟨.type PySem.W.SL.s7174869446012820540x8, none, .func { name := (mkS [95,108,97,119,95,100,114,97,119,115]), qualname := (mkS [95,108,97,119,95,100,114,97,119,115]), params := fa (stmtAt p 12), body := .stmts (fb (stmtAt p 12)), scope := fs (stmtAt p 12), globals := 3, closure := [], defaults := .none, kwdefaults := .none, doc := .none, pyModule := .str (mkS [108,97,119,95,116,112,48,48,51,50,95,48,49]) 2273, annotations := none, code := .ref 110, closureTuple := .none, builtins := 0 }, (Array.mk [])⟩
noncomputable def t12 (p : Program) (P : Params) : BT := ((((((((t11 p P).ins 3 (o3_13 p P)).ins 12 (o12_7 p P)).ins 107 (o107_0 p P)).ins 108 (o108_0 p P)).ins 109 (o109_0 p P)).ins 110 (o110_0 p P)).ins 111 (o111_0 p P))
noncomputable def o3_14 (p : Program) (P : Params) : Obj := ⟨.type PySem.W.SL.s14018661285674007319x4, none, .dict (Array.mk [⟨PyData.keyHash P (mkS [95,95,110,97,109,101,95,95]), .str (mkS [95,95,110,97,109,101,95,95]) 165, .str (mkS [108,97,119,95,116,112,48,48,51,50,95,48,49]) 2273⟩, ⟨PyData.keyHash P (mkS [95,95,100,111,99,95,95]), .str (mkS [95,95,100,111,99,95,95]) 166, .none⟩, ⟨PyData.keyHash P (mkS [95,95,112,97,99,107,97,103,101,95,95]), .str (mkS [95,95,112,97,99,107,97,103,101,95,95]) 167, .none⟩, ⟨PyData.keyHash P (mkS [95,95,108,111,97,100,101,114,95,95]), .str (mkS [95,95,108,111,97,100,101,114,95,95]) 168, .builtin PySem.W.SL.s7097527257260152453x26⟩, ⟨PyData.keyHash P (mkS [95,95,115,112,101,99,95,95]), .str (mkS [95,95,115,112,101,99,95,95]) 169, .none⟩, ⟨PyData.keyHash P (mkS [95,95,97,110,110,111,116,97,116,105,111,110,115,95,95]), .str (mkS [95,95,97,110,110,111,116,97,116,105,111,110,115,95,95]) 170, .ref 6⟩, ⟨PyData.keyHash P (mkS [95,95,98,117,105,108,116,105,110,115,95,95]), .str (mkS [95,95,98,117,105,108,116,105,110,115,95,95]) 171, .ref 4⟩, ⟨PyData.keyHash P (mkS [95,95,102,105,108,101,95,95]), .str (mkS [95,95,102,105,108,101,95,95]) 173, .str (mkS [47,99,108,97,105,109,47,99,117,116,46,112,121]) 172⟩, ⟨PyData.keyHash P (mkS [95,95,99,97,99,104,101,100,95,95]), .str (mkS [95,95,99,97,99,104,101,100,95,95]) 174, .none⟩, ⟨PyData.keyHash P (mkS [114,103,98,95,116,111,95,104,108,115]), .str (mkS [114,103,98,95,116,111,95,104,108,115]) 207, .ref 21⟩, ⟨PyData.keyHash P (mkS [114,103,98,95,116,111,95,104,115,118]), .str (mkS [114,103,98,95,116,111,95,104,115,118]) 225, .ref 28⟩, ⟨PyData.keyHash P (mkS [95,115,116,114,105,112,95,112,97,100,100,105,110,103]), .str (mkS [95,115,116,114,105,112,95,112,97,100,100,105,110,103]) 237, .ref 35⟩, ⟨PyData.keyHash P (mkS [98,49,95,115,101,116]), .str (mkS [98,49,95,115,101,116]) 299, .ref 43⟩, ⟨PyData.keyHash P (mkS [105,110,95,116,97,98,108,101,95,98,49]), .str (mkS [105,110,95,116,97,98,108,101,95,98,49]) 306, .ref 53⟩, ⟨PyData.keyHash P (mkS [98,51,95,101,120,99,101,112,116,105,111,110,115]), .str (mkS [98,51,95,101,120,99,101,112,116,105,111,110,115]) 2257, .ref 54⟩, ⟨PyData.keyHash P (mkS [109,97,112,95,116,97,98,108,101,95,98,51]), .str (mkS [109,97,112,95,116,97,98,108,101,95,98,51]) 2265, .ref 99⟩, ⟨PyData.keyHash P (mkS [105,110,95,116,97,98,108,101,95,99,49,49]), .str (mkS [105,110,95,116,97,98,108,101,95,99,49,49]) 2272, .ref 106⟩, ⟨PyData.keyHash P (mkS [95,108,97,119,95,100,114,97,119,115]), .str (mkS [95,108,97,119,95,100,114,97,119,115]) 2280, .ref 111⟩, ⟨PyData.keyHash P (mkS [95,108,97,119,95,102,105,103,117,114,101,115]), .str (mkS [95,108,97,119,95,102,105,103,117,114,101,115]) 2286, .ref 116⟩]) 19, (Array.mk [])⟩
noncomputable def o12_8 (p : Program) (P : Params) : Obj := ⟨.none, none, .fields (Array.mk [.int 2 0, .int 0 0, .ref 20, .int 25 0, .int 0 0, .ref 27, .int 45 0, .int 0 0, .ref 34, .int 57 0, .int 0 0, .ref 52, .int 60 0, .int 0 0, .ref 98, .int 65 0, .int 0 0, .ref 105, .int 68 0, .int 0 0, .ref 110, .int 70 0, .int 0 0, .ref 115]), (Array.mk [])⟩
noncomputable def o112_0 (p : Program) (P : Params) : Obj := ⟨.type PySem.W.SL.s2766695959194262286x5, none, .seq (Array.mk []) 0, (Array.mk [])⟩
noncomputable def o113_0 (p : Program) (P : Params) : Obj := ⟨.none, none, .fields (Array.mk []), (Array.mk [])⟩
noncomputable def o114_0 (p : Program) (P : Params) : Obj := ⟨.none, none, .func { name := (mkS [95,108,97,119,95,102,105,103,117,114,101,115]), qualname := (mkS [95,108,97,119,95,102,105,103,117,114,101,115]), params := fa (stmtAt p 13), body := .stmts (fb (stmtAt p 13)), scope := fs (stmtAt p 13), globals := 0, closure := [], defaults := .none, kwdefaults := .none, doc := .none, pyModule := .none, annotations := none, code := .none, closureTuple := .none, builtins := 0 }, (Array.mk [])⟩
noncomputable def o115_0 (p : Program) (P : Params) : Obj := ⟨.type PySem.W.SL.s5856160107412720595x4, none, .fields (Array.mk [.str (mkS [95,108,97,119,95,102,105,103,117,114,101,115]) 2281, .str (mkS [95,108,97,119,95,102,105,103,117,114,101,115]) 2282, .str (mkS [47,99,108,97,105,109,47,99,117,116,46,112,121]) 2283, .int 70 0, .int 1 0, .int 0 0, .int 0 0, .int 3 0, .ref 112, .bool true, .int 181 0, .ref 113, .none, .none, .none, .ref 114, .int 2284 0, .int 70 0, .str (mkS [47,99,108,97,105,109,47,99,117,116,46,112,121]) 2285]), (Array.mk [])⟩
noncomputable def o116_0 (p : Program) (P : Params) : Obj := ⟨.type PySem.W.SL.s7174869446012820540x8, none, .func { name := (mkS [95,108,97,119,95,102,105,103,117,114,101,115]), qualname := (mkS [95,108,97,119,95,102,105,103,117,114,101,115]), params := fa (stmtAt p 13), body := .stmts (fb (stmtAt p 13)), scope := fs (stmtAt p 13), globals := 3, closure := [], defaults := .none, kwdefaults := .none, doc := .none, pyModule := .str (mkS [108,97,119,95,116,112,48,48,51,50,95,48,49]) 2273, annotations := none, code := .ref 115, closureTuple := .none, builtins := 0 }, (Array.mk [])⟩
noncomputable def t13 (p : Program) (P : Params) : BT := ((((((((t12 p P).ins 3 (o3_14 p P)).ins 12 (o12_8 p P)).ins 112 (o112_0 p P)).ins 113 (o113_0 p P)).ins 114 (o114_0 p P)).ins 115 (o115_0 p P)).ins 116 (o116_0 p P))
noncomputable def o3_15 (p : Program) (P : Params) : Obj := ⟨.type PySem.W.SL.s14018661285674007319x4, none, .dict (Array.mk [⟨PyData.keyHash P (mkS [95,95,110,97,109,101,95,95]), .str (mkS [95,95,110,97,109,101,95,95]) 165, .str (mkS [108,97,119,95,116,112,48,48,51,50,95,48,49]) 2273⟩, ⟨PyData.keyHash P (mkS [95,95,100,111,99,95,95]), .str (mkS [95,95,100,111,99,95,95]) 166, .none⟩, ⟨PyData.keyHash P (mkS [95,95,112,97,99,107,97,103,101,95,95]), .str (mkS [95,95,112,97,99,107,97,103,101,95,95]) 167, .none⟩, ⟨PyData.keyHash P (mkS [95,95,108,111,97,100,101,114,95,95]), .str (mkS [95,95,108,111,97,100,101,114,95,95]) 168, .builtin PySem.W.SL.s7097527257260152453x26⟩, ⟨PyData.keyHash P (mkS [95,95,115,112,101,99,95,95]), .str (mkS [95,95,115,112,101,99,95,95]) 169, .none⟩, ⟨PyData.keyHash P (mkS [95,95,97,110,110,111,116,97,116,105,111,110,115,95,95]), .str (mkS [95,95,97,110,110,111,116,97,116,105,111,110,115,95,95]) 170, .ref 6⟩, ⟨PyData.keyHash P (mkS [95,95,98,117,105,108,116,105,110,115,95,95]), .str (mkS [95,95,98,117,105,108,116,105,110,115,95,95]) 171, .ref 4⟩, ⟨PyData.keyHash P (mkS [95,95,102,105,108,101,95,95]), .str (mkS [95,95,102,105,108,101,95,95]) 173, .str (mkS [47,99,108,97,105,109,47,99,117,116,46,112,121]) 172⟩, ⟨PyData.keyHash P (mkS [95,95,99,97,99,104,101,100,95,95]), .str (mkS [95,95,99,97,99,104,101,100,95,95]) 174, .none⟩, ⟨PyData.keyHash P (mkS [114,103,98,95,116,111,95,104,108,115]), .str (mkS [114,103,98,95,116,111,95,104,108,115]) 207, .ref 21⟩, ⟨PyData.keyHash P (mkS [114,103,98,95,116,111,95,104,115,118]), .str (mkS [114,103,98,95,116,111,95,104,115,118]) 225, .ref 28⟩, ⟨PyData.keyHash P (mkS [95,115,116,114,105,112,95,112,97,100,100,105,110,103]), .str (mkS [95,115,116,114,105,112,95,112,97,100,100,105,110,103]) 237, .ref 35⟩, ⟨PyData.keyHash P (mkS [98,49,95,115,101,116]), .str (mkS [98,49,95,115,101,116]) 299, .ref 43⟩, ⟨PyData.keyHash P (mkS [105,110,95,116,97,98,108,101,95,98,49]), .str (mkS [105,110,95,116,97,98,108,101,95,98,49]) 306, .ref 53⟩, ⟨PyData.keyHash P (mkS [98,51,95,101,120,99,101,112,116,105,111,110,115]), .str (mkS [98,51,95,101,120,99,101,112,116,105,111,110,115]) 2257, .ref 54⟩, ⟨PyData.keyHash P (mkS [109,97,112,95,116,97,98,108,101,95,98,51]), .str (mkS [109,97,112,95,116,97,98,108,101,95,98,51]) 2265, .ref 99⟩, ⟨PyData.keyHash P (mkS [105,110,95,116,97,98,108,101,95,99,49,49]), .str (mkS [105,110,95,116,97,98,108,101,95,99,49,49]) 2272, .ref 106⟩, ⟨PyData.keyHash P (mkS [95,108,97,119,95,100,114,97,119,115]), .str (mkS [95,108,97,119,95,100,114,97,119,115]) 2280, .ref 111⟩, ⟨PyData.keyHash P (mkS [95,108,97,119,95,102,105,103,117,114,101,115]), .str (mkS [95,108,97,119,95,102,105,103,117,114,101,115]) 2286, .ref 116⟩, ⟨PyData.keyHash P (mkS [95,108,97,119,95,112,105,101,99,101]), .str (mkS [95,108,97,119,95,112,105,101,99,101]) 2295, .ref 123⟩]) 20, (Array.mk [])⟩
noncomputable def o12_9 (p : Program) (P : Params) : Obj := ⟨.none, none, .fields (Array.mk [.int 2 0, .int 0 0, .ref 20, .int 25 0, .int 0 0, .ref 27, .int 45 0, .int 0 0, .ref 34, .int 57 0, .int 0 0, .ref 52, .int 60 0, .int 0 0, .ref 98, .int 65 0, .int 0 0, .ref 105, .int 68 0, .int 0 0, .ref 110, .int 70 0, .int 0 0, .ref 115, .int 72 0, .int 0 0, .ref 122]), (Array.mk [])⟩
noncomputable def o117_0 (p : Program) (P : Params) : Obj := ⟨.type PySem.W.SL.s2766695959194262286x5, none, .seq (Array.mk []) 0, (Array.mk [])⟩
noncomputable def o118_0 (p : Program) (P : Params) : Obj := ⟨.none, none, .fields (Array.mk []), (Array.mk [])⟩
noncomputable def o119_0 (p : Program) (P : Params) : Obj := ⟨.type PySem.W.SL.s2766695959194262286x5, none, .seq (Array.mk [.str (mkS [102,105,103,117,114,101]) 2290, .str (mkS [108,101,116,116,101,114]) 2291, .str (mkS [119,97,121]) 2292]) 0, (Array.mk [])⟩
noncomputable def o120_0 (p : Program) (P : Params) : Obj := ⟨.type PySem.W.SL.s2766695959194262286x5, none, .seq (Array.mk []) 0, (Array.mk [])⟩
noncomputable def o121_0 (p : Program) (P : Params) : Obj := ⟨.none, none, .func { name := (mkS [95,108,97,119,95,112,105,101,99,101]), qualname := (mkS [95,108,97,119,95,112,105,101,99,101]), params := fa (stmtAt p 14), body := .stmts (fb (stmtAt p 14)), scope := fs (stmtAt p 14), globals := 0, closure := [], defaults := .none, kwdefaults := .none, doc := .none, pyModule := .none, annotations := none, code := .none, closureTuple := .none, builtins := 0 }, (Array.mk [])⟩
noncomputable def o122_0 (p : Program) (P : Params) : Obj := ⟨.type PySem.W.SL.s5856160107412720595x4, none, .fields (Array.mk [.str (mkS [95,108,97,119,95,112,105,101,99,101]) 2287, .str (mkS [95,108,97,119,95,112,105,101,99,101]) 2288, .str (mkS [47,99,108,97,105,109,47,99,117,116,46,112,121]) 2289, .int 72 0, .int 1 0, .int 0 0, .int 0 0, .int 3 0, .ref 117, .bool true, .int 181 0, .ref 118, .none, .ref 119, .ref 120, .ref 121, .int 2293 0, .int 72 0, .str (mkS [47,99,108,97,105,109,47,99,117,116,46,112,121]) 2294]), (Array.mk [])⟩
noncomputable def o123_0 (p : Program) (P : Params) : Obj := ⟨.type PySem.W.SL.s7174869446012820540x8, none, .func { name := (mkS [95,108,97,119,95,112,105,101,99,101]), qualname := (mkS [95,108,97,119,95,112,105,101,99,101]), params := fa (stmtAt p 14), body := .stmts (fb (stmtAt p 14)), scope := fs (stmtAt p 14), globals := 3, closure := [], defaults := .none, kwdefaults := .none, doc := .none, pyModule := .str (mkS [108,97,119,95,116,112,48,48,51,50,95,48,49]) 2273, annotations := none, code := .ref 122, closureTuple := .none, builtins := 0 }, (Array.mk [])⟩
noncomputable def t14 (p : Program) (P : Params) : BT := ((((((((((t13 p P).ins 3 (o3_15 p P)).ins 12 (o12_9 p P)).ins 117 (o117_0 p P)).ins 118 (o118_0 p P)).ins 119 (o119_0 p P)).ins 120 (o120_0 p P)).ins 121 (o121_0 p P)).ins 122 (o122_0 p P)).ins 123 (o123_0 p P))
noncomputable def o3_16 (p : Program) (P : Params) : Obj := ⟨.type PySem.W.SL.s14018661285674007319x4, none, .dict (Array.mk [⟨PyData.keyHash P (mkS [95,95,110,97,109,101,95,95]), .str (mkS [95,95,110,97,109,101,95,95]) 165, .str (mkS [108,97,119,95,116,112,48,48,51,50,95,48,49]) 2273⟩, ⟨PyData.keyHash P (mkS [95,95,100,111,99,95,95]), .str (mkS [95,95,100,111,99,95,95]) 166, .none⟩, ⟨PyData.keyHash P (mkS [95,95,112,97,99,107,97,103,101,95,95]), .str (mkS [95,95,112,97,99,107,97,103,101,95,95]) 167, .none⟩, ⟨PyData.keyHash P (mkS [95,95,108,111,97,100,101,114,95,95]), .str (mkS [95,95,108,111,97,100,101,114,95,95]) 168, .builtin PySem.W.SL.s7097527257260152453x26⟩, ⟨PyData.keyHash P (mkS [95,95,115,112,101,99,95,95]), .str (mkS [95,95,115,112,101,99,95,95]) 169, .none⟩, ⟨PyData.keyHash P (mkS [95,95,97,110,110,111,116,97,116,105,111,110,115,95,95]), .str (mkS [95,95,97,110,110,111,116,97,116,105,111,110,115,95,95]) 170, .ref 6⟩, ⟨PyData.keyHash P (mkS [95,95,98,117,105,108,116,105,110,115,95,95]), .str (mkS [95,95,98,117,105,108,116,105,110,115,95,95]) 171, .ref 4⟩, ⟨PyData.keyHash P (mkS [95,95,102,105,108,101,95,95]), .str (mkS [95,95,102,105,108,101,95,95]) 173, .str (mkS [47,99,108,97,105,109,47,99,117,116,46,112,121]) 172⟩, ⟨PyData.keyHash P (mkS [95,95,99,97,99,104,101,100,95,95]), .str (mkS [95,95,99,97,99,104,101,100,95,95]) 174, .none⟩, ⟨PyData.keyHash P (mkS [114,103,98,95,116,111,95,104,108,115]), .str (mkS [114,103,98,95,116,111,95,104,108,115]) 207, .ref 21⟩, ⟨PyData.keyHash P (mkS [114,103,98,95,116,111,95,104,115,118]), .str (mkS [114,103,98,95,116,111,95,104,115,118]) 225, .ref 28⟩, ⟨PyData.keyHash P (mkS [95,115,116,114,105,112,95,112,97,100,100,105,110,103]), .str (mkS [95,115,116,114,105,112,95,112,97,100,100,105,110,103]) 237, .ref 35⟩, ⟨PyData.keyHash P (mkS [98,49,95,115,101,116]), .str (mkS [98,49,95,115,101,116]) 299, .ref 43⟩, ⟨PyData.keyHash P (mkS [105,110,95,116,97,98,108,101,95,98,49]), .str (mkS [105,110,95,116,97,98,108,101,95,98,49]) 306, .ref 53⟩, ⟨PyData.keyHash P (mkS [98,51,95,101,120,99,101,112,116,105,111,110,115]), .str (mkS [98,51,95,101,120,99,101,112,116,105,111,110,115]) 2257, .ref 54⟩, ⟨PyData.keyHash P (mkS [109,97,112,95,116,97,98,108,101,95,98,51]), .str (mkS [109,97,112,95,116,97,98,108,101,95,98,51]) 2265, .ref 99⟩, ⟨PyData.keyHash P (mkS [105,110,95,116,97,98,108,101,95,99,49,49]), .str (mkS [105,110,95,116,97,98,108,101,95,99,49,49]) 2272, .ref 106⟩, ⟨PyData.keyHash P (mkS [95,108,97,119,95,100,114,97,119,115]), .str (mkS [95,108,97,119,95,100,114,97,119,115]) 2280, .ref 111⟩, ⟨PyData.keyHash P (mkS [95,108,97,119,95,102,105,103,117,114,101,115]), .str (mkS [95,108,97,119,95,102,105,103,117,114,101,115]) 2286, .ref 116⟩, ⟨PyData.keyHash P (mkS [95,108,97,119,95,112,105,101,99,101]), .str (mkS [95,108,97,119,95,112,105,101,99,101]) 2295, .ref 123⟩, ⟨PyData.keyHash P (mkS [95,108,97,119,95,119,111,114,100]), .str (mkS [95,108,97,119,95,119,111,114,100]) 2301, .ref 128⟩]) 21, (Array.mk [])⟩
noncomputable def o12_10 (p : Program) (P : Params) : Obj := ⟨.none, none, .fields (Array.mk [.int 2 0, .int 0 0, .ref 20, .int 25 0, .int 0 0, .ref 27, .int 45 0, .int 0 0, .ref 34, .int 57 0, .int 0 0, .ref 52, .int 60 0, .int 0 0, .ref 98, .int 65 0, .int 0 0, .ref 105, .int 68 0, .int 0 0, .ref 110, .int 70 0, .int 0 0, .ref 115, .int 72 0, .int 0 0, .ref 122, .int 84 0, .int 0 0, .ref 127]), (Array.mk [])⟩
noncomputable def o124_0 (p : Program) (P : Params) : Obj := ⟨.type PySem.W.SL.s2766695959194262286x5, none, .seq (Array.mk []) 0, (Array.mk [])⟩
noncomputable def o125_0 (p : Program) (P : Params) : Obj := ⟨.none, none, .fields (Array.mk []), (Array.mk [])⟩
noncomputable def o126_0 (p : Program) (P : Params) : Obj := ⟨.none, none, .func { name := (mkS [95,108,97,119,95,119,111,114,100]), qualname := (mkS [95,108,97,119,95,119,111,114,100]), params := fa (stmtAt p 15), body := .stmts (fb (stmtAt p 15)), scope := fs (stmtAt p 15), globals := 0, closure := [], defaults := .none, kwdefaults := .none, doc := .none, pyModule := .none, annotations := none, code := .none, closureTuple := .none, builtins := 0 }, (Array.mk [])⟩
noncomputable def o127_0 (p : Program) (P : Params) : Obj := ⟨.type PySem.W.SL.s5856160107412720595x4, none, .fields (Array.mk [.str (mkS [95,108,97,119,95,119,111,114,100]) 2296, .str (mkS [95,108,97,119,95,119,111,114,100]) 2297, .str (mkS [47,99,108,97,105,109,47,99,117,116,46,112,121]) 2298, .int 84 0, .int 1 0, .int 0 0, .int 0 0, .int 3 0, .ref 124, .bool true, .int 181 0, .ref 125, .none, .none, .none, .ref 126, .int 2299 0, .int 84 0, .str (mkS [47,99,108,97,105,109,47,99,117,116,46,112,121]) 2300]), (Array.mk [])⟩
noncomputable def o128_0 (p : Program) (P : Params) : Obj := ⟨.type PySem.W.SL.s7174869446012820540x8, none, .func { name := (mkS [95,108,97,119,95,119,111,114,100]), qualname := (mkS [95,108,97,119,95,119,111,114,100]), params := fa (stmtAt p 15), body := .stmts (fb (stmtAt p 15)), scope := fs (stmtAt p 15), globals := 3, closure := [], defaults := .none, kwdefaults := .none, doc := .none, pyModule := .str (mkS [108,97,119,95,116,112,48,48,51,50,95,48,49]) 2273, annotations := none, code := .ref 127, closureTuple := .none, builtins := 0 }, (Array.mk [])⟩
noncomputable def t15 (p : Program) (P : Params) : BT := (.node (bo0 p P) (.node (bo1 p P) (.node (o3_16 p P) (.node (bo7 p P) (.node (o15_0 p P) (.node (o31_0 p P) (.node (o63_0 p P) (.node (o127_0 p P) .nil .nil) .nil) (.node (o95_0 p P) .nil .nil)) (.node (o47_0 p P) (.node (o79_0 p P) .nil .nil) (.node (o111_0 p P) .nil .nil))) (.node (o23_0 p P) (.node (o39_0 p P) (.node (o71_0 p P) .nil .nil) (.node (o103_0 p P) .nil .nil)) (.node (o55_0 p P) (.node (o87_0 p P) .nil .nil) (.node (o119_0 p P) .nil .nil)))) (.node (o11_0 p P) (.node (o19_0 p P) (.node (o35_0 p P) (.node (o67_0 p P) .nil .nil) (.node (o99_0 p P) .nil .nil)) (.node (o51_0 p P) (.node (o83_0 p P) .nil .nil) (.node (o115_0 p P) .nil .nil))) (.node (o27_0 p P) (.node (o43_0 p P) (.node (o75_0 p P) .nil .nil) (.node (o107_0 p P) .nil .nil)) (.node (o59_0 p P) (.node (o91_0 p P) .nil .nil) (.node (o123_0 p P) .nil .nil))))) (.node (bo5 p P) (.node (bo9 p P) (.node (o17_0 p P) (.node (o33_0 p P) (.node (o65_0 p P) .nil .nil) (.node (o97_0 p P) .nil .nil)) (.node (o49_0 p P) (.node (o81_0 p P) .nil .nil) (.node (o113_0 p P) .nil .nil))) (.node (o25_0 p P) (.node (o41_0 p P) (.node (o73_0 p P) .nil .nil) (.node (o105_0 p P) .nil .nil)) (.node (o57_0 p P) (.node (o89_0 p P) .nil .nil) (.node (o121_0 p P) .nil .nil)))) (.node (o13_0 p P) (.node (o21_0 p P) (.node (o37_0 p P) (.node (o69_0 p P) .nil .nil) (.node (o101_0 p P) .nil .nil)) (.node (o53_0 p P) (.node (o85_0 p P) .nil .nil) (.node (o117_0 p P) .nil .nil))) (.node (o29_0 p P) (.node (o45_0 p P) (.node (o77_0 p P) .nil .nil) (.node (o109_0 p P) .nil .nil)) (.node (o61_0 p P) (.node (o93_0 p P) .nil .nil) (.node (o125_0 p P) .nil .nil)))))) (.node (bo2 p P) (.node (bo4 p P) (.node (bo8 p P) (.node (o16_0 p P) (.node (o32_0 p P) (.node (o64_0 p P) (.node (o128_0 p P) .nil .nil) .nil) (.node (o96_0 p P) .nil .nil)) (.node (o48_0 p P) (.node (o80_0 p P) .nil .nil) (.node (o112_0 p P) .nil .nil))) (.node (o24_0 p P) (.node (o40_0 p P) (.node (o72_0 p P) .nil .nil) (.node (o104_0 p P) .nil .nil)) (.node (o56_0 p P) (.node (o88_0 p P) .nil .nil) (.node (o120_0 p P) .nil .nil)))) (.node (o12_10 p P) (.node (o20_0 p P) (.node (o36_0 p P) (.node (o68_0 p P) .nil .nil) (.node (o100_0 p P) .nil .nil)) (.node (o52_0 p P) (.node (o84_0 p P) .nil .nil) (.node (o116_0 p P) .nil .nil))) (.node (o28_0 p P) (.node (o44_0 p P) (.node (o76_0 p P) .nil .nil) (.node (o108_0 p P) .nil .nil)) (.node (o60_0 p P) (.node (o92_0 p P) .nil .nil) (.node (o124_0 p P) .nil .nil))))) (.node (bo6 p P) (.node (bo10 p P) (.node (o18_0 p P) (.node (o34_0 p P) (.node (o66_0 p P) .nil .nil) (.node (o98_0 p P) .nil .nil)) (.node (o50_0 p P) (.node (o82_0 p P) .nil .nil) (.node (o114_0 p P) .nil .nil))) (.node (o26_0 p P) (.node (o42_0 p P) (.node (o74_0 p P) .nil .nil) (.node (o106_0 p P) .nil .nil)) (.node (o58_0 p P) (.node (o90_0 p P) .nil .nil) (.node (o122_0 p P) .nil .nil)))) (.node (o14_0 p P) (.node (o22_0 p P) (.node (o38_0 p P) (.node (o70_0 p P) .nil .nil) (.node (o102_0 p P) .nil .nil)) (.node (o54_38 p P) (.node (o86_0 p P) .nil .nil) (.node (o118_0 p P) .nil .nil))) (.node (o30_0 p P) (.node (o46_0 p P) (.node (o78_0 p P) .nil .nil) (.node (o110_0 p P) .nil .nil)) (.node (o62_0 p P) (.node (o94_0 p P) .nil .nil) (.node (o126_0 p P) .nil .nil)))))))
noncomputable def o3_17 (p : Program) (P : Params) : Obj := ⟨.type PySem.W.SL.s14018661285674007319x4, none, .dict (Array.mk [⟨PyData.keyHash P (mkS [95,95,110,97,109,101,95,95]), .str (mkS [95,95,110,97,109,101,95,95]) 165, .str (mkS [108,97,119,95,116,112,48,48,51,50,95,48,49]) 2273⟩, ⟨PyData.keyHash P (mkS [95,95,100,111,99,95,95]), .str (mkS [95,95,100,111,99,95,95]) 166, .none⟩, ⟨PyData.keyHash P (mkS [95,95,112,97,99,107,97,103,101,95,95]), .str (mkS [95,95,112,97,99,107,97,103,101,95,95]) 167, .none⟩, ⟨PyData.keyHash P (mkS [95,95,108,111,97,100,101,114,95,95]), .str (mkS [95,95,108,111,97,100,101,114,95,95]) 168, .builtin PySem.W.SL.s7097527257260152453x26⟩, ⟨PyData.keyHash P (mkS [95,95,115,112,101,99,95,95]), .str (mkS [95,95,115,112,101,99,95,95]) 169, .none⟩, ⟨PyData.keyHash P (mkS [95,95,97,110,110,111,116,97,116,105,111,110,115,95,95]), .str (mkS [95,95,97,110,110,111,116,97,116,105,111,110,115,95,95]) 170, .ref 6⟩, ⟨PyData.keyHash P (mkS [95,95,98,117,105,108,116,105,110,115,95,95]), .str (mkS [95,95,98,117,105,108,116,105,110,115,95,95]) 171, .ref 4⟩, ⟨PyData.keyHash P (mkS [95,95,102,105,108,101,95,95]), .str (mkS [95,95,102,105,108,101,95,95]) 173, .str (mkS [47,99,108,97,105,109,47,99,117,116,46,112,121]) 172⟩, ⟨PyData.keyHash P (mkS [95,95,99,97,99,104,101,100,95,95]), .str (mkS [95,95,99,97,99,104,101,100,95,95]) 174, .none⟩, ⟨PyData.keyHash P (mkS [114,103,98,95,116,111,95,104,108,115]), .str (mkS [114,103,98,95,116,111,95,104,108,115]) 207, .ref 21⟩, ⟨PyData.keyHash P (mkS [114,103,98,95,116,111,95,104,115,118]), .str (mkS [114,103,98,95,116,111,95,104,115,118]) 225, .ref 28⟩, ⟨PyData.keyHash P (mkS [95,115,116,114,105,112,95,112,97,100,100,105,110,103]), .str (mkS [95,115,116,114,105,112,95,112,97,100,100,105,110,103]) 237, .ref 35⟩, ⟨PyData.keyHash P (mkS [98,49,95,115,101,116]), .str (mkS [98,49,95,115,101,116]) 299, .ref 43⟩, ⟨PyData.keyHash P (mkS [105,110,95,116,97,98,108,101,95,98,49]), .str (mkS [105,110,95,116,97,98,108,101,95,98,49]) 306, .ref 53⟩, ⟨PyData.keyHash P (mkS [98,51,95,101,120,99,101,112,116,105,111,110,115]), .str (mkS [98,51,95,101,120,99,101,112,116,105,111,110,115]) 2257, .ref 54⟩, ⟨PyData.keyHash P (mkS [109,97,112,95,116,97,98,108,101,95,98,51]), .str (mkS [109,97,112,95,116,97,98,108,101,95,98,51]) 2265, .ref 99⟩, ⟨PyData.keyHash P (mkS [105,110,95,116,97,98,108,101,95,99,49,49]), .str (mkS [105,110,95,116,97,98,108,101,95,99,49,49]) 2272, .ref 106⟩, ⟨PyData.keyHash P (mkS [95,108,97,119,95,100,114,97,119,115]), .str (mkS [95,108,97,119,95,100,114,97,119,115]) 2280, .ref 111⟩, ⟨PyData.keyHash P (mkS [95,108,97,119,95,102,105,103,117,114,101,115]), .str (mkS [95,108,97,119,95,102,105,103,117,114,101,115]) 2286, .ref 116⟩, ⟨PyData.keyHash P (mkS [95,108,97,119,95,112,105,101,99,101]), .str (mkS [95,108,97,119,95,112,105,101,99,101]) 2295, .ref 123⟩, ⟨PyData.keyHash P (mkS [95,108,97,119,95,119,111,114,100]), .str (mkS [95,108,97,119,95,119,111,114,100]) 2301, .ref 128⟩, ⟨PyData.keyHash P (mkS [95,108,97,119,95,107,101,112,116]), .str (mkS [95,108,97,119,95,107,101,112,116]) 2307, .ref 133⟩]) 22, (Array.mk [])⟩
noncomputable def o12_11 (p : Program) (P : Params) : Obj := ⟨.none, none, .fields (Array.mk [.int 2 0, .int 0 0, .ref 20, .int 25 0, .int 0 0, .ref 27, .int 45 0, .int 0 0, .ref 34, .int 57 0, .int 0 0, .ref 52, .int 60 0, .int 0 0, .ref 98, .int 65 0, .int 0 0, .ref 105, .int 68 0, .int 0 0, .ref 110, .int 70 0, .int 0 0, .ref 115, .int 72 0, .int 0 0, .ref 122, .int 84 0, .int 0 0, .ref 127, .int 87 0, .int 0 0, .ref 132]), (Array.mk [])⟩
noncomputable def o129_0 (p : Program) (P : Params) : Obj := ⟨.type PySem.W.SL.s2766695959194262286x5, none, .seq (Array.mk []) 0, (Array.mk [])⟩
noncomputable def o130_0 (p : Program) (P : Params) : Obj := ⟨.none, none, .fields (Array.mk []), (Array.mk [])⟩
noncomputable def o131_0 (p : Program) (P : Params) : Obj := ⟨.none, none, .func { name := (mkS [95,108,97,119,95,107,101,112,116]), qualname := (mkS [95,108,97,119,95,107,101,112,116]), params := fa (stmtAt p 16), body := .stmts (fb (stmtAt p 16)), scope := fs (stmtAt p 16), globals := 0, closure := [], defaults := .none, kwdefaults := .none, doc := .none, pyModule := .none, annotations := none, code := .none, closureTuple := .none, builtins := 0 }, (Array.mk [])⟩
noncomputable def o132_0 (p : Program) (P : Params) : Obj := ⟨.type PySem.W.SL.s5856160107412720595x4, none, .fields (Array.mk [.str (mkS [95,108,97,119,95,107,101,112,116]) 2302, .str (mkS [95,108,97,119,95,107,101,112,116]) 2303, .str (mkS [47,99,108,97,105,109,47,99,117,116,46,112,121]) 2304, .int 87 0, .int 1 0, .int 0 0, .int 0 0, .int 3 0, .ref 129, .bool true, .int 181 0, .ref 130, .none, .none, .none, .ref 131, .int 2305 0, .int 87 0, .str (mkS [47,99,108,97,105,109,47,99,117,116,46,112,121]) 2306]), (Array.mk [])⟩
noncomputable def o133_0 (p : Program) (P : Params) : Obj := ⟨.type PySem.W.SL.s7174869446012820540x8, none, .func { name := (mkS [95,108,97,119,95,107,101,112,116]), qualname := (mkS [95,108,97,119,95,107,101,112,116]), params := fa (stmtAt p 16), body := .stmts (fb (stmtAt p 16)), scope := fs (stmtAt p 16), globals := 3, closure := [], defaults := .none, kwdefaults := .none, doc := .none, pyModule := .str (mkS [108,97,119,95,116,112,48,48,51,50,95,48,49]) 2273, annotations := none, code := .ref 132, closureTuple := .none, builtins := 0 }, (Array.mk [])⟩
noncomputable def t16 (p : Program) (P : Params) : BT := ((((((((t15 p P).ins 3 (o3_17 p P)).ins 12 (o12_11 p P)).ins 129 (o129_0 p P)).ins 130 (o130_0 p P)).ins 131 (o131_0 p P)).ins 132 (o132_0 p P)).ins 133 (o133_0 p P))
noncomputable def o3_18 (p : Program) (P : Params) : Obj := ⟨.type PySem.W.SL.s14018661285674007319x4, none, .dict (Array.mk [⟨PyData.keyHash P (mkS [95,95,110,97,109,101,95,95]), .str (mkS [95,95,110,97,109,101,95,95]) 165, .str (mkS [108,97,119,95,116,112,48,48,51,50,95,48,49]) 2273⟩, ⟨PyData.keyHash P (mkS [95,95,100,111,99,95,95]), .str (mkS [95,95,100,111,99,95,95]) 166, .none⟩, ⟨PyData.keyHash P (mkS [95,95,112,97,99,107,97,103,101,95,95]), .str (mkS [95,95,112,97,99,107,97,103,101,95,95]) 167, .none⟩, ⟨PyData.keyHash P (mkS [95,95,108,111,97,100,101,114,95,95]), .str (mkS [95,95,108,111,97,100,101,114,95,95]) 168, .builtin PySem.W.SL.s7097527257260152453x26⟩, ⟨PyData.keyHash P (mkS [95,95,115,112,101,99,95,95]), .str (mkS [95,95,115,112,101,99,95,95]) 169, .none⟩, ⟨PyData.keyHash P (mkS [95,95,97,110,110,111,116,97,116,105,111,110,115,95,95]), .str (mkS [95,95,97,110,110,111,116,97,116,105,111,110,115,95,95]) 170, .ref 6⟩, ⟨PyData.keyHash P (mkS [95,95,98,117,105,108,116,105,110,115,95,95]), .str (mkS [95,95,98,117,105,108,116,105,110,115,95,95]) 171, .ref 4⟩, ⟨PyData.keyHash P (mkS [95,95,102,105,108,101,95,95]), .str (mkS [95,95,102,105,108,101,95,95]) 173, .str (mkS [47,99,108,97,105,109,47,99,117,116,46,112,121]) 172⟩, ⟨PyData.keyHash P (mkS [95,95,99,97,99,104,101,100,95,95]), .str (mkS [95,95,99,97,99,104,101,100,95,95]) 174, .none⟩, ⟨PyData.keyHash P (mkS [114,103,98,95,116,111,95,104,108,115]), .str (mkS [114,103,98,95,116,111,95,104,108,115]) 207, .ref 21⟩, ⟨PyData.keyHash P (mkS [114,103,98,95,116,111,95,104,115,118]), .str (mkS [114,103,98,95,116,111,95,104,115,118]) 225, .ref 28⟩, ⟨PyData.keyHash P (mkS [95,115,116,114,105,112,95,112,97,100,100,105,110,103]), .str (mkS [95,115,116,114,105,112,95,112,97,100,100,105,110,103]) 237, .ref 35⟩, ⟨PyData.keyHash P (mkS [98,49,95,115,101,116]), .str (mkS [98,49,95,115,101,116]) 299, .ref 43⟩, ⟨PyData.keyHash P (mkS [105,110,95,116,97,98,108,101,95,98,49]), .str (mkS [105,110,95,116,97,98,108,101,95,98,49]) 306, .ref 53⟩, ⟨PyData.keyHash P (mkS [98,51,95,101,120,99,101,112,116,105,111,110,115]), .str (mkS [98,51,95,101,120,99,101,112,116,105,111,110,115]) 2257, .ref 54⟩, ⟨PyData.keyHash P (mkS [109,97,112,95,116,97,98,108,101,95,98,51]), .str (mkS [109,97,112,95,116,97,98,108,101,95,98,51]) 2265, .ref 99⟩, ⟨PyData.keyHash P (mkS [105,110,95,116,97,98,108,101,95,99,49,49]), .str (mkS [105,110,95,116,97,98,108,101,95,99,49,49]) 2272, .ref 106⟩, ⟨PyData.keyHash P (mkS [95,108,97,119,95,100,114,97,119,115]), .str (mkS [95,108,97,119,95,100,114,97,119,115]) 2280, .ref 111⟩, ⟨PyData.keyHash P (mkS [95,108,97,119,95,102,105,103,117,114,101,115]), .str (mkS [95,108,97,119,95,102,105,103,117,114,101,115]) 2286, .ref 116⟩, ⟨PyData.keyHash P (mkS [95,108,97,119,95,112,105,101,99,101]), .str (mkS [95,108,97,119,95,112,105,101,99,101]) 2295, .ref 123⟩, ⟨PyData.keyHash P (mkS [95,108,97,119,95,119,111,114,100]), .str (mkS [95,108,97,119,95,119,111,114,100]) 2301, .ref 128⟩, ⟨PyData.keyHash P (mkS [95,108,97,119,95,107,101,112,116]), .str (mkS [95,108,97,119,95,107,101,112,116]) 2307, .ref 133⟩, ⟨PyData.keyHash P (mkS [95,108,97,119,95,116,111,108,100]), .str (mkS [95,108,97,119,95,116,111,108,100]) 2313, .ref 138⟩]) 23, (Array.mk [])⟩
noncomputable def o12_12 (p : Program) (P : Params) : Obj := ⟨.none, none, .fields (Array.mk [.int 2 0, .int 0 0, .ref 20, .int 25 0, .int 0 0, .ref 27, .int 45 0, .int 0 0, .ref 34, .int 57 0, .int 0 0, .ref 52, .int 60 0, .int 0 0, .ref 98, .int 65 0, .int 0 0, .ref 105, .int 68 0, .int 0 0, .ref 110, .int 70 0, .int 0 0, .ref 115, .int 72 0, .int 0 0, .ref 122, .int 84 0, .int 0 0, .ref 127, .int 87 0, .int 0 0, .ref 132, .int 90 0, .int 0 0, .ref 137]), (Array.mk [])⟩
noncomputable def o134_0 (p : Program) (P : Params) : Obj := ⟨.type PySem.W.SL.s2766695959194262286x5, none, .seq (Array.mk []) 0, (Array.mk [])⟩
noncomputable def o135_0 (p : Program) (P : Params) : Obj := ⟨.none, none, .fields (Array.mk []), (Array.mk [])⟩
noncomputable def o136_0 (p : Program) (P : Params) : Obj := ⟨.none, none, .func { name := (mkS [95,108,97,119,95,116,111,108,100]), qualname := (mkS [95,108,97,119,95,116,111,108,100]), params := fa (stmtAt p 17), body := .stmts (fb (stmtAt p 17)), scope := fs (stmtAt p 17), globals := 0, closure := [], defaults := .none, kwdefaults := .none, doc := .none, pyModule := .none, annotations := none, code := .none, closureTuple := .none, builtins := 0 }, (Array.mk [])⟩
noncomputable def o137_0 (p : Program) (P : Params) : Obj := ⟨.type PySem.W.SL.s5856160107412720595x4, none, .fields (Array.mk [.str (mkS [95,108,97,119,95,116,111,108,100]) 2308, .str (mkS [95,108,97,119,95,116,111,108,100]) 2309, .str (mkS [47,99,108,97,105,109,47,99,117,116,46,112,121]) 2310, .int 90 0, .int 1 0, .int 0 0, .int 0 0, .int 3 0, .ref 134, .bool true, .int 181 0, .ref 135, .none, .none, .none, .ref 136, .int 2311 0, .int 90 0, .str (mkS [47,99,108,97,105,109,47,99,117,116,46,112,121]) 2312]), (Array.mk [])⟩
noncomputable def o138_0 (p : Program) (P : Params) : Obj := ⟨.type PySem.W.SL.s7174869446012820540x8, none, .func { name := (mkS [95,108,97,119,95,116,111,108,100]), qualname := (mkS [95,108,97,119,95,116,111,108,100]), params := fa (stmtAt p 17), body := .stmts (fb (stmtAt p 17)), scope := fs (stmtAt p 17), globals := 3, closure := [], defaults := .none, kwdefaults := .none, doc := .none, pyModule := .str (mkS [108,97,119,95,116,112,48,48,51,50,95,48,49]) 2273, annotations := none, code := .ref 137, closureTuple := .none, builtins := 0 }, (Array.mk [])⟩
noncomputable def t17 (p : Program) (P : Params) : BT := ((((((((t16 p P).ins 3 (o3_18 p P)).ins 12 (o12_12 p P)).ins 134 (o134_0 p P)).ins 135 (o135_0 p P)).ins 136 (o136_0 p P)).ins 137 (o137_0 p P)).ins 138 (o138_0 p P))
noncomputable def o3_19 (p : Program) (P : Params) : Obj := ⟨.type PySem.W.SL.s14018661285674007319x4, none, .dict (Array.mk [⟨PyData.keyHash P (mkS [95,95,110,97,109,101,95,95]), .str (mkS [95,95,110,97,109,101,95,95]) 165, .str (mkS [108,97,119,95,116,112,48,48,51,50,95,48,49]) 2273⟩, ⟨PyData.keyHash P (mkS [95,95,100,111,99,95,95]), .str (mkS [95,95,100,111,99,95,95]) 166, .none⟩, ⟨PyData.keyHash P (mkS [95,95,112,97,99,107,97,103,101,95,95]), .str (mkS [95,95,112,97,99,107,97,103,101,95,95]) 167, .none⟩, ⟨PyData.keyHash P (mkS [95,95,108,111,97,100,101,114,95,95]), .str (mkS [95,95,108,111,97,100,101,114,95,95]) 168, .builtin PySem.W.SL.s7097527257260152453x26⟩, ⟨PyData.keyHash P (mkS [95,95,115,112,101,99,95,95]), .str (mkS [95,95,115,112,101,99,95,95]) 169, .none⟩, ⟨PyData.keyHash P (mkS [95,95,97,110,110,111,116,97,116,105,111,110,115,95,95]), .str (mkS [95,95,97,110,110,111,116,97,116,105,111,110,115,95,95]) 170, .ref 6⟩, ⟨PyData.keyHash P (mkS [95,95,98,117,105,108,116,105,110,115,95,95]), .str (mkS [95,95,98,117,105,108,116,105,110,115,95,95]) 171, .ref 4⟩, ⟨PyData.keyHash P (mkS [95,95,102,105,108,101,95,95]), .str (mkS [95,95,102,105,108,101,95,95]) 173, .str (mkS [47,99,108,97,105,109,47,99,117,116,46,112,121]) 172⟩, ⟨PyData.keyHash P (mkS [95,95,99,97,99,104,101,100,95,95]), .str (mkS [95,95,99,97,99,104,101,100,95,95]) 174, .none⟩, ⟨PyData.keyHash P (mkS [114,103,98,95,116,111,95,104,108,115]), .str (mkS [114,103,98,95,116,111,95,104,108,115]) 207, .ref 21⟩, ⟨PyData.keyHash P (mkS [114,103,98,95,116,111,95,104,115,118]), .str (mkS [114,103,98,95,116,111,95,104,115,118]) 225, .ref 28⟩, ⟨PyData.keyHash P (mkS [95,115,116,114,105,112,95,112,97,100,100,105,110,103]), .str (mkS [95,115,116,114,105,112,95,112,97,100,100,105,110,103]) 237, .ref 35⟩, ⟨PyData.keyHash P (mkS [98,49,95,115,101,116]), .str (mkS [98,49,95,115,101,116]) 299, .ref 43⟩, ⟨PyData.keyHash P (mkS [105,110,95,116,97,98,108,101,95,98,49]), .str (mkS [105,110,95,116,97,98,108,101,95,98,49]) 306, .ref 53⟩, ⟨PyData.keyHash P (mkS [98,51,95,101,120,99,101,112,116,105,111,110,115]), .str (mkS [98,51,95,101,120,99,101,112,116,105,111,110,115]) 2257, .ref 54⟩, ⟨PyData.keyHash P (mkS [109,97,112,95,116,97,98,108,101,95,98,51]), .str (mkS [109,97,112,95,116,97,98,108,101,95,98,51]) 2265, .ref 99⟩, ⟨PyData.keyHash P (mkS [105,110,95,116,97,98,108,101,95,99,49,49]), .str (mkS [105,110,95,116,97,98,108,101,95,99,49,49]) 2272, .ref 106⟩, ⟨PyData.keyHash P (mkS [95,108,97,119,95,100,114,97,119,115]), .str (mkS [95,108,97,119,95,100,114,97,119,115]) 2280, .ref 111⟩, ⟨PyData.keyHash P (mkS [95,108,97,119,95,102,105,103,117,114,101,115]), .str (mkS [95,108,97,119,95,102,105,103,117,114,101,115]) 2286, .ref 116⟩, ⟨PyData.keyHash P (mkS [95,108,97,119,95,112,105,101,99,101]), .str (mkS [95,108,97,119,95,112,105,101,99,101]) 2295, .ref 123⟩, ⟨PyData.keyHash P (mkS [95,108,97,119,95,119,111,114,100]), .str (mkS [95,108,97,119,95,119,111,114,100]) 2301, .ref 128⟩, ⟨PyData.keyHash P (mkS [95,108,97,119,95,107,101,112,116]), .str (mkS [95,108,97,119,95,107,101,112,116]) 2307, .ref 133⟩, ⟨PyData.keyHash P (mkS [95,108,97,119,95,116,111,108,100]), .str (mkS [95,108,97,119,95,116,111,108,100]) 2313, .ref 138⟩, ⟨PyData.keyHash P (mkS [95,108,97,119,95,115,117,109]), .str (mkS [95,108,97,119,95,115,117,109]) 2325, .ref 145⟩]) 24, (Array.mk [])⟩
noncomputable def o12_13 (p : Program) (P : Params) : Obj := ⟨.none, none, .fields (Array.mk [.int 2 0, .int 0 0, .ref 20, .int 25 0, .int 0 0, .ref 27, .int 45 0, .int 0 0, .ref 34, .int 57 0, .int 0 0, .ref 52, .int 60 0, .int 0 0, .ref 98, .int 65 0, .int 0 0, .ref 105, .int 68 0, .int 0 0, .ref 110, .int 70 0, .int 0 0, .ref 115, .int 72 0, .int 0 0, .ref 122, .int 84 0, .int 0 0, .ref 127, .int 87 0, .int 0 0, .ref 132, .int 90 0, .int 0 0, .ref 137, .int 98 0, .int 0 0, .ref 144]), (Array.mk [])⟩
noncomputable def o139_0 (p : Program) (P : Params) : Obj := ⟨.type PySem.W.SL.s2766695959194262286x5, none, .seq (Array.mk []) 0, (Array.mk [])⟩
noncomputable def o140_0 (p : Program) (P : Params) : Obj := ⟨.none, none, .fields (Array.mk []), (Array.mk [])⟩
noncomputable def o141_0 (p : Program) (P : Params) : Obj := ⟨.type PySem.W.SL.s2766695959194262286x5, none, .seq (Array.mk [.str (mkS [114,111,119]) 2317, .str (mkS [115,112,111,116]) 2318, .str (mkS [116,111,116,97,108]) 2319, .str (mkS [105]) 2320, .str (mkS [106]) 2321, .str (mkS [107]) 2322]) 0, (Array.mk [])⟩
noncomputable def o142_0 (p : Program) (P : Params) : Obj := ⟨.type PySem.W.SL.s2766695959194262286x5, none, .seq (Array.mk []) 0, (Array.mk [])⟩
noncomputable def o143_0 (p : Program) (P : Params) : Obj := ⟨.none, none, .func { name := (mkS [95,108,97,119,95,115,117,109]), qualname := (mkS [95,108,97,119,95,115,117,109]), params := fa (stmtAt p 18), body := .stmts (fb (stmtAt p 18)), scope := fs (stmtAt p 18), globals := 0, closure := [], defaults := .none, kwdefaults := .none, doc := .none, pyModule := .none, annotations := none, code := .none, closureTuple := .none, builtins := 0 }, (Array.mk [])⟩
noncomputable def o144_0 (p : Program) (P : Params) : Obj := ⟨.type PySem.W.SL.s5856160107412720595x4, none, .fields (Array.mk [.str (mkS [95,108,97,119,95,115,117,109]) 2314, .str (mkS [95,108,97,119,95,115,117,109]) 2315, .str (mkS [47,99,108,97,105,109,47,99,117,116,46,112,121]) 2316, .int 98 0, .int 2 0, .int 0 0, .int 0 0, .int 3 0, .ref 139, .bool true, .int 181 0, .ref 140, .none, .ref 141, .ref 142, .ref 143, .int 2323 0, .int 98 0, .str (mkS [47,99,108,97,105,109,47,99,117,116,46,112,121]) 2324]), (Array.mk [])⟩
noncomputable def o145_0 (p : Program) (P : Params) : Obj := ⟨.type PySem.W.SL.s7174869446012820540x8, none, .func { name := (mkS [95,108,97,119,95,115,117,109]), qualname := (mkS [95,108,97,119,95,115,117,109]), params := fa (stmtAt p 18), body := .stmts (fb (stmtAt p 18)), scope := fs (stmtAt p 18), globals := 3, closure := [], defaults := .none, kwdefaults := .none, doc := .none, pyModule := .str (mkS [108,97,119,95,116,112,48,48,51,50,95,48,49]) 2273, annotations := none, code := .ref 144, closureTuple := .none, builtins := 0 }, (Array.mk [])⟩
noncomputable def t18 (p : Program) (P : Params) : BT := ((((((((((t17 p P).ins 3 (o3_19 p P)).ins 12 (o12_13 p P)).ins 139 (o139_0 p P)).ins 140 (o140_0 p P)).ins 141 (o141_0 p P)).ins 142 (o142_0 p P)).ins 143 (o143_0 p P)).ins 144 (o144_0 p P)).ins 145 (o145_0 p P))
noncomputable def o3_20 (p : Program) (P : Params) : Obj := ⟨.type PySem.W.SL.s14018661285674007319x4, none, .dict (Array.mk [⟨PyData.keyHash P (mkS [95,95,110,97,109,101,95,95]), .str (mkS [95,95,110,97,109,101,95,95]) 165, .str (mkS [108,97,119,95,116,112,48,48,51,50,95,48,49]) 2273⟩, ⟨PyData.keyHash P (mkS [95,95,100,111,99,95,95]), .str (mkS [95,95,100,111,99,95,95]) 166, .none⟩, ⟨PyData.keyHash P (mkS [95,95,112,97,99,107,97,103,101,95,95]), .str (mkS [95,95,112,97,99,107,97,103,101,95,95]) 167, .none⟩, ⟨PyData.keyHash P (mkS [95,95,108,111,97,100,101,114,95,95]), .str (mkS [95,95,108,111,97,100,101,114,95,95]) 168, .builtin PySem.W.SL.s7097527257260152453x26⟩, ⟨PyData.keyHash P (mkS [95,95,115,112,101,99,95,95]), .str (mkS [95,95,115,112,101,99,95,95]) 169, .none⟩, ⟨PyData.keyHash P (mkS [95,95,97,110,110,111,116,97,116,105,111,110,115,95,95]), .str (mkS [95,95,97,110,110,111,116,97,116,105,111,110,115,95,95]) 170, .ref 6⟩, ⟨PyData.keyHash P (mkS [95,95,98,117,105,108,116,105,110,115,95,95]), .str (mkS [95,95,98,117,105,108,116,105,110,115,95,95]) 171, .ref 4⟩, ⟨PyData.keyHash P (mkS [95,95,102,105,108,101,95,95]), .str (mkS [95,95,102,105,108,101,95,95]) 173, .str (mkS [47,99,108,97,105,109,47,99,117,116,46,112,121]) 172⟩, ⟨PyData.keyHash P (mkS [95,95,99,97,99,104,101,100,95,95]), .str (mkS [95,95,99,97,99,104,101,100,95,95]) 174, .none⟩, ⟨PyData.keyHash P (mkS [114,103,98,95,116,111,95,104,108,115]), .str (mkS [114,103,98,95,116,111,95,104,108,115]) 207, .ref 21⟩, ⟨PyData.keyHash P (mkS [114,103,98,95,116,111,95,104,115,118]), .str (mkS [114,103,98,95,116,111,95,104,115,118]) 225, .ref 28⟩, ⟨PyData.keyHash P (mkS [95,115,116,114,105,112,95,112,97,100,100,105,110,103]), .str (mkS [95,115,116,114,105,112,95,112,97,100,100,105,110,103]) 237, .ref 35⟩, ⟨PyData.keyHash P (mkS [98,49,95,115,101,116]), .str (mkS [98,49,95,115,101,116]) 299, .ref 43⟩, ⟨PyData.keyHash P (mkS [105,110,95,116,97,98,108,101,95,98,49]), .str (mkS [105,110,95,116,97,98,108,101,95,98,49]) 306, .ref 53⟩, ⟨PyData.keyHash P (mkS [98,51,95,101,120,99,101,112,116,105,111,110,115]), .str (mkS [98,51,95,101,120,99,101,112,116,105,111,110,115]) 2257, .ref 54⟩, ⟨PyData.keyHash P (mkS [109,97,112,95,116,97,98,108,101,95,98,51]), .str (mkS [109,97,112,95,116,97,98,108,101,95,98,51]) 2265, .ref 99⟩, ⟨PyData.keyHash P (mkS [105,110,95,116,97,98,108,101,95,99,49,49]), .str (mkS [105,110,95,116,97,98,108,101,95,99,49,49]) 2272, .ref 106⟩, ⟨PyData.keyHash P (mkS [95,108,97,119,95,100,114,97,119,115]), .str (mkS [95,108,97,119,95,100,114,97,119,115]) 2280, .ref 111⟩, ⟨PyData.keyHash P (mkS [95,108,97,119,95,102,105,103,117,114,101,115]), .str (mkS [95,108,97,119,95,102,105,103,117,114,101,115]) 2286, .ref 116⟩, ⟨PyData.keyHash P (mkS [95,108,97,119,95,112,105,101,99,101]), .str (mkS [95,108,97,119,95,112,105,101,99,101]) 2295, .ref 123⟩, ⟨PyData.keyHash P (mkS [95,108,97,119,95,119,111,114,100]), .str (mkS [95,108,97,119,95,119,111,114,100]) 2301, .ref 128⟩, ⟨PyData.keyHash P (mkS [95,108,97,119,95,107,101,112,116]), .str (mkS [95,108,97,119,95,107,101,112,116]) 2307, .ref 133⟩, ⟨PyData.keyHash P (mkS [95,108,97,119,95,116,111,108,100]), .str (mkS [95,108,97,119,95,116,111,108,100]) 2313, .ref 138⟩, ⟨PyData.keyHash P (mkS [95,108,97,119,95,115,117,109]), .str (mkS [95,108,97,119,95,115,117,109]) 2325, .ref 145⟩, ⟨PyData.keyHash P (mkS [95,108,97,119,95,109,111,118,101,115]), .str (mkS [95,108,97,119,95,109,111,118,101,115]) 2340, .ref 152⟩]) 25, (Array.mk [])⟩
noncomputable def o12_14 (p : Program) (P : Params) : Obj := ⟨.none, none, .fields (Array.mk [.int 2 0, .int 0 0, .ref 20, .int 25 0, .int 0 0, .ref 27, .int 45 0, .int 0 0, .ref 34, .int 57 0, .int 0 0, .ref 52, .int 60 0, .int 0 0, .ref 98, .int 65 0, .int 0 0, .ref 105, .int 68 0, .int 0 0, .ref 110, .int 70 0, .int 0 0, .ref 115, .int 72 0, .int 0 0, .ref 122, .int 84 0, .int 0 0, .ref 127, .int 87 0, .int 0 0, .ref 132, .int 90 0, .int 0 0, .ref 137, .int 98 0, .int 0 0, .ref 144, .int 103 0, .int 0 0, .ref 151]), (Array.mk [])⟩
noncomputable def o146_0 (p : Program) (P : Params) : Obj := ⟨.type PySem.W.SL.s2766695959194262286x5, none, .seq (Array.mk []) 0, (Array.mk [])⟩
noncomputable def o147_0 (p : Program) (P : Params) : Obj := ⟨.none, none, .fields (Array.mk []), (Array.mk [])⟩
noncomputable def o148_0 (p : Program) (P : Params) : Obj := ⟨.type PySem.W.SL.s2766695959194262286x5, none, .seq (Array.mk [.str (mkS [115,116,97,114,116]) 2329, .str (mkS [103,111,97,108]) 2330, .str (mkS [108,97,121,101,114]) 2331, .str (mkS [109,111,118,101,115]) 2332, .str (mkS [102,117,114,116,104,101,114]) 2333, .str (mkS [114,111,119]) 2334, .str (mkS [105]) 2335, .str (mkS [106]) 2336, .str (mkS [109,111,118,101,100]) 2337]) 0, (Array.mk [])⟩
noncomputable def o149_0 (p : Program) (P : Params) : Obj := ⟨.type PySem.W.SL.s2766695959194262286x5, none, .seq (Array.mk []) 0, (Array.mk [])⟩
noncomputable def o150_0 (p : Program) (P : Params) : Obj := ⟨.none, none, .func { name := (mkS [95,108,97,119,95,109,111,118,101,115]), qualname := (mkS [95,108,97,119,95,109,111,118,101,115]), params := fa (stmtAt p 19), body := .stmts (fb (stmtAt p 19)), scope := fs (stmtAt p 19), globals := 0, closure := [], defaults := .none, kwdefaults := .none, doc := .none, pyModule := .none, annotations := none, code := .none, closureTuple := .none, builtins := 0 }, (Array.mk [])⟩
noncomputable def o151_0 (p : Program) (P : Params) : Obj := ⟨.type PySem.W.SL.s5856160107412720595x4, none, .fields (Array.mk [.str (mkS [95,108,97,119,95,109,111,118,101,115]) 2326, .str (mkS [95,108,97,119,95,109,111,118,101,115]) 2327, .str (mkS [47,99,108,97,105,109,47,99,117,116,46,112,121]) 2328, .int 103 0, .int 2 0, .int 0 0, .int 0 0, .int 3 0, .ref 146, .bool true, .int 181 0, .ref 147, .none, .ref 148, .ref 149, .ref 150, .int 2338 0, .int 103 0, .str (mkS [47,99,108,97,105,109,47,99,117,116,46,112,121]) 2339]), (Array.mk [])⟩
noncomputable def o152_0 (p : Program) (P : Params) : Obj := ⟨.type PySem.W.SL.s7174869446012820540x8, none, .func { name := (mkS [95,108,97,119,95,109,111,118,101,115]), qualname := (mkS [95,108,97,119,95,109,111,118,101,115]), params := fa (stmtAt p 19), body := .stmts (fb (stmtAt p 19)), scope := fs (stmtAt p 19), globals := 3, closure := [], defaults := .none, kwdefaults := .none, doc := .none, pyModule := .str (mkS [108,97,119,95,116,112,48,48,51,50,95,48,49]) 2273, annotations := none, code := .ref 151, closureTuple := .none, builtins := 0 }, (Array.mk [])⟩
noncomputable def t19 (p : Program) (P : Params) : BT := (.node (bo0 p P) (.node (bo1 p P) (.node (o3_20 p P) (.node (bo7 p P) (.node (o15_0 p P) (.node (o31_0 p P) (.node (o63_0 p P) (.node (o127_0 p P) .nil .nil) .nil) (.node (o95_0 p P) .nil .nil)) (.node (o47_0 p P) (.node (o79_0 p P) (.node (o143_0 p P) .nil .nil) .nil) (.node (o111_0 p P) .nil .nil))) (.node (o23_0 p P) (.node (o39_0 p P) (.node (o71_0 p P) (.node (o135_0 p P) .nil .nil) .nil) (.node (o103_0 p P) .nil .nil)) (.node (o55_0 p P) (.node (o87_0 p P) (.node (o151_0 p P) .nil .nil) .nil) (.node (o119_0 p P) .nil .nil)))) (.node (o11_0 p P) (.node (o19_0 p P) (.node (o35_0 p P) (.node (o67_0 p P) (.node (o131_0 p P) .nil .nil) .nil) (.node (o99_0 p P) .nil .nil)) (.node (o51_0 p P) (.node (o83_0 p P) (.node (o147_0 p P) .nil .nil) .nil) (.node (o115_0 p P) .nil .nil))) (.node (o27_0 p P) (.node (o43_0 p P) (.node (o75_0 p P) (.node (o139_0 p P) .nil .nil) .nil) (.node (o107_0 p P) .nil .nil)) (.node (o59_0 p P) (.node (o91_0 p P) .nil .nil) (.node (o123_0 p P) .nil .nil))))) (.node (bo5 p P) (.node (bo9 p P) (.node (o17_0 p P) (.node (o33_0 p P) (.node (o65_0 p P) (.node (o129_0 p P) .nil .nil) .nil) (.node (o97_0 p P) .nil .nil)) (.node (o49_0 p P) (.node (o81_0 p P) (.node (o145_0 p P) .nil .nil) .nil) (.node (o113_0 p P) .nil .nil))) (.node (o25_0 p P) (.node (o41_0 p P) (.node (o73_0 p P) (.node (o137_0 p P) .nil .nil) .nil) (.node (o105_0 p P) .nil .nil)) (.node (o57_0 p P) (.node (o89_0 p P) .nil .nil) (.node (o121_0 p P) .nil .nil)))) (.node (o13_0 p P) (.node (o21_0 p P) (.node (o37_0 p P) (.node (o69_0 p P) (.node (o133_0 p P) .nil .nil) .nil) (.node (o101_0 p P) .nil .nil)) (.node (o53_0 p P) (.node (o85_0 p P) (.node (o149_0 p P) .nil .nil) .nil) (.node (o117_0 p P) .nil .nil))) (.node (o29_0 p P) (.node (o45_0 p P) (.node (o77_0 p P) (.node (o141_0 p P) .nil .nil) .nil) (.node (o109_0 p P) .nil .nil)) (.node (o61_0 p P) (.node (o93_0 p P) .nil .nil) (.node (o125_0 p P) .nil .nil)))))) (.node (bo2 p P) (.node (bo4 p P) (.node (bo8 p P) (.node (o16_0 p P) (.node (o32_0 p P) (.node (o64_0 p P) (.node (o128_0 p P) .nil .nil) .nil) (.node (o96_0 p P) .nil .nil)) (.node (o48_0 p P) (.node (o80_0 p P) (.node (o144_0 p P) .nil .nil) .nil) (.node (o112_0 p P) .nil .nil))) (.node (o24_0 p P) (.node (o40_0 p P) (.node (o72_0 p P) (.node (o136_0 p P) .nil .nil) .nil) (.node (o104_0 p P) .nil .nil)) (.node (o56_0 p P) (.node (o88_0 p P) (.node (o152_0 p P) .nil .nil) .nil) (.node (o120_0 p P) .nil .nil)))) (.node (o12_14 p P) (.node (o20_0 p P) (.node (o36_0 p P) (.node (o68_0 p P) (.node (o132_0 p P) .nil .nil) .nil) (.node (o100_0 p P) .nil .nil)) (.node (o52_0 p P) (.node (o84_0 p P) (.node (o148_0 p P) .nil .nil) .nil) (.node (o116_0 p P) .nil .nil))) (.node (o28_0 p P) (.node (o44_0 p P) (.node (o76_0 p P) (.node (o140_0 p P) .nil .nil) .nil) (.node (o108_0 p P) .nil .nil)) (.node (o60_0 p P) (.node (o92_0 p P) .nil .nil) (.node (o124_0 p P) .nil .nil))))) (.node (bo6 p P) (.node (bo10 p P) (.node (o18_0 p P) (.node (o34_0 p P) (.node (o66_0 p P) (.node (o130_0 p P) .nil .nil) .nil) (.node (o98_0 p P) .nil .nil)) (.node (o50_0 p P) (.node (o82_0 p P) (.node (o146_0 p P) .nil .nil) .nil) (.node (o114_0 p P) .nil .nil))) (.node (o26_0 p P) (.node (o42_0 p P) (.node (o74_0 p P) (.node (o138_0 p P) .nil .nil) .nil) (.node (o106_0 p P) .nil .nil)) (.node (o58_0 p P) (.node (o90_0 p P) .nil .nil) (.node (o122_0 p P) .nil .nil)))) (.node (o14_0 p P) (.node (o22_0 p P) (.node (o38_0 p P) (.node (o70_0 p P) (.node (o134_0 p P) .nil .nil) .nil) (.node (o102_0 p P) .nil .nil)) (.node (o54_38 p P) (.node (o86_0 p P) (.node (o150_0 p P) .nil .nil) .nil) (.node (o118_0 p P) .nil .nil))) (.node (o30_0 p P) (.node (o46_0 p P) (.node (o78_0 p P) (.node (o142_0 p P) .nil .nil) .nil) (.node (o110_0 p P) .nil .nil)) (.node (o62_0 p P) (.node (o94_0 p P) .nil .nil) (.node (o126_0 p P) .nil .nil)))))))
noncomputable def o3_21 (p : Program) (P : Params) : Obj := ⟨.type PySem.W.SL.s14018661285674007319x4, none, .dict (Array.mk [⟨PyData.keyHash P (mkS [95,95,110,97,109,101,95,95]), .str (mkS [95,95,110,97,109,101,95,95]) 165, .str (mkS [108,97,119,95,116,112,48,48,51,50,95,48,49]) 2273⟩, ⟨PyData.keyHash P (mkS [95,95,100,111,99,95,95]), .str (mkS [95,95,100,111,99,95,95]) 166, .none⟩, ⟨PyData.keyHash P (mkS [95,95,112,97,99,107,97,103,101,95,95]), .str (mkS [95,95,112,97,99,107,97,103,101,95,95]) 167, .none⟩, ⟨PyData.keyHash P (mkS [95,95,108,111,97,100,101,114,95,95]), .str (mkS [95,95,108,111,97,100,101,114,95,95]) 168, .builtin PySem.W.SL.s7097527257260152453x26⟩, ⟨PyData.keyHash P (mkS [95,95,115,112,101,99,95,95]), .str (mkS [95,95,115,112,101,99,95,95]) 169, .none⟩, ⟨PyData.keyHash P (mkS [95,95,97,110,110,111,116,97,116,105,111,110,115,95,95]), .str (mkS [95,95,97,110,110,111,116,97,116,105,111,110,115,95,95]) 170, .ref 6⟩, ⟨PyData.keyHash P (mkS [95,95,98,117,105,108,116,105,110,115,95,95]), .str (mkS [95,95,98,117,105,108,116,105,110,115,95,95]) 171, .ref 4⟩, ⟨PyData.keyHash P (mkS [95,95,102,105,108,101,95,95]), .str (mkS [95,95,102,105,108,101,95,95]) 173, .str (mkS [47,99,108,97,105,109,47,99,117,116,46,112,121]) 172⟩, ⟨PyData.keyHash P (mkS [95,95,99,97,99,104,101,100,95,95]), .str (mkS [95,95,99,97,99,104,101,100,95,95]) 174, .none⟩, ⟨PyData.keyHash P (mkS [114,103,98,95,116,111,95,104,108,115]), .str (mkS [114,103,98,95,116,111,95,104,108,115]) 207, .ref 21⟩, ⟨PyData.keyHash P (mkS [114,103,98,95,116,111,95,104,115,118]), .str (mkS [114,103,98,95,116,111,95,104,115,118]) 225, .ref 28⟩, ⟨PyData.keyHash P (mkS [95,115,116,114,105,112,95,112,97,100,100,105,110,103]), .str (mkS [95,115,116,114,105,112,95,112,97,100,100,105,110,103]) 237, .ref 35⟩, ⟨PyData.keyHash P (mkS [98,49,95,115,101,116]), .str (mkS [98,49,95,115,101,116]) 299, .ref 43⟩, ⟨PyData.keyHash P (mkS [105,110,95,116,97,98,108,101,95,98,49]), .str (mkS [105,110,95,116,97,98,108,101,95,98,49]) 306, .ref 53⟩, ⟨PyData.keyHash P (mkS [98,51,95,101,120,99,101,112,116,105,111,110,115]), .str (mkS [98,51,95,101,120,99,101,112,116,105,111,110,115]) 2257, .ref 54⟩, ⟨PyData.keyHash P (mkS [109,97,112,95,116,97,98,108,101,95,98,51]), .str (mkS [109,97,112,95,116,97,98,108,101,95,98,51]) 2265, .ref 99⟩, ⟨PyData.keyHash P (mkS [105,110,95,116,97,98,108,101,95,99,49,49]), .str (mkS [105,110,95,116,97,98,108,101,95,99,49,49]) 2272, .ref 106⟩, ⟨PyData.keyHash P (mkS [95,108,97,119,95,100,114,97,119,115]), .str (mkS [95,108,97,119,95,100,114,97,119,115]) 2280, .ref 111⟩, ⟨PyData.keyHash P (mkS [95,108,97,119,95,102,105,103,117,114,101,115]), .str (mkS [95,108,97,119,95,102,105,103,117,114,101,115]) 2286, .ref 116⟩, ⟨PyData.keyHash P (mkS [95,108,97,119,95,112,105,101,99,101]), .str (mkS [95,108,97,119,95,112,105,101,99,101]) 2295, .ref 123⟩, ⟨PyData.keyHash P (mkS [95,108,97,119,95,119,111,114,100]), .str (mkS [95,108,97,119,95,119,111,114,100]) 2301, .ref 128⟩, ⟨PyData.keyHash P (mkS [95,108,97,119,95,107,101,112,116]), .str (mkS [95,108,97,119,95,107,101,112,116]) 2307, .ref 133⟩, ⟨PyData.keyHash P (mkS [95,108,97,119,95,116,111,108,100]), .str (mkS [95,108,97,119,95,116,111,108,100]) 2313, .ref 138⟩, ⟨PyData.keyHash P (mkS [95,108,97,119,95,115,117,109]), .str (mkS [95,108,97,119,95,115,117,109]) 2325, .ref 145⟩, ⟨PyData.keyHash P (mkS [95,108,97,119,95,109,111,118,101,115]), .str (mkS [95,108,97,119,95,109,111,118,101,115]) 2340, .ref 152⟩, ⟨PyData.keyHash P (mkS [95,108,97,119,95,104,111,108,100,115]), .str (mkS [95,108,97,119,95,104,111,108,100,115]) 2346, .ref 157⟩]) 26, (Array.mk [])⟩
noncomputable def o12_15 (p : Program) (P : Params) : Obj := ⟨.none, none, .fields (Array.mk [.int 2 0, .int 0 0, .ref 20, .int 25 0, .int 0 0, .ref 27, .int 45 0, .int 0 0, .ref 34, .int 57 0, .int 0 0, .ref 52, .int 60 0, .int 0 0, .ref 98, .int 65 0, .int 0 0, .ref 105, .int 68 0, .int 0 0, .ref 110, .int 70 0, .int 0 0, .ref 115, .int 72 0, .int 0 0, .ref 122, .int 84 0, .int 0 0, .ref 127, .int 87 0, .int 0 0, .ref 132, .int 90 0, .int 0 0, .ref 137, .int 98 0, .int 0 0, .ref 144, .int 103 0, .int 0 0, .ref 151, .int 122 0, .int 0 0, .ref 156]), (Array.mk [])⟩
noncomputable def o153_0 (p : Program) (P : Params) : Obj := ⟨.type PySem.W.SL.s2766695959194262286x5, none, .seq (Array.mk []) 0, (Array.mk [])⟩
noncomputable def o154_0 (p : Program) (P : Params) : Obj := ⟨.none, none, .fields (Array.mk []), (Array.mk [])⟩
noncomputable def o155_0 (p : Program) (P : Params) : Obj := ⟨.none, none, .func { name := (mkS [95,108,97,119,95,104,111,108,100,115]), qualname := (mkS [95,108,97,119,95,104,111,108,100,115]), params := fa (stmtAt p 20), body := .stmts (fb (stmtAt p 20)), scope := fs (stmtAt p 20), globals := 0, closure := [], defaults := .none, kwdefaults := .none, doc := .none, pyModule := .none, annotations := none, code := .none, closureTuple := .none, builtins := 0 }, (Array.mk [])⟩
noncomputable def o156_0 (p : Program) (P : Params) : Obj := ⟨.type PySem.W.SL.s5856160107412720595x4, none, .fields (Array.mk [.str (mkS [95,108,97,119,95,104,111,108,100,115]) 2341, .str (mkS [95,108,97,119,95,104,111,108,100,115]) 2342, .str (mkS [47,99,108,97,105,109,47,99,117,116,46,112,121]) 2343, .int 122 0, .int 3 0, .int 0 0, .int 0 0, .int 3 0, .ref 153, .bool true, .int 181 0, .ref 154, .none, .none, .none, .ref 155, .int 2344 0, .int 122 0, .str (mkS [47,99,108,97,105,109,47,99,117,116,46,112,121]) 2345]), (Array.mk [])⟩
noncomputable def o157_0 (p : Program) (P : Params) : Obj := ⟨.type PySem.W.SL.s7174869446012820540x8, none, .func { name := (mkS [95,108,97,119,95,104,111,108,100,115]), qualname := (mkS [95,108,97,119,95,104,111,108,100,115]), params := fa (stmtAt p 20), body := .stmts (fb (stmtAt p 20)), scope := fs (stmtAt p 20), globals := 3, closure := [], defaults := .none, kwdefaults := .none, doc := .none, pyModule := .str (mkS [108,97,119,95,116,112,48,48,51,50,95,48,49]) 2273, annotations := none, code := .ref 156, closureTuple := .none, builtins := 0 }, (Array.mk [])⟩
noncomputable def t20 (p : Program) (P : Params) : BT := ((((((((t19 p P).ins 3 (o3_21 p P)).ins 12 (o12_15 p P)).ins 153 (o153_0 p P)).ins 154 (o154_0 p P)).ins 155 (o155_0 p P)).ins 156 (o156_0 p P)).ins 157 (o157_0 p P))
noncomputable def o3_22 (p : Program) (P : Params) : Obj := ⟨.type PySem.W.SL.s14018661285674007319x4, none, .dict (Array.mk [⟨PyData.keyHash P (mkS [95,95,110,97,109,101,95,95]), .str (mkS [95,95,110,97,109,101,95,95]) 165, .str (mkS [108,97,119,95,116,112,48,48,51,50,95,48,49]) 2273⟩, ⟨PyData.keyHash P (mkS [95,95,100,111,99,95,95]), .str (mkS [95,95,100,111,99,95,95]) 166, .none⟩, ⟨PyData.keyHash P (mkS [95,95,112,97,99,107,97,103,101,95,95]), .str (mkS [95,95,112,97,99,107,97,103,101,95,95]) 167, .none⟩, ⟨PyData.keyHash P (mkS [95,95,108,111,97,100,101,114,95,95]), .str (mkS [95,95,108,111,97,100,101,114,95,95]) 168, .builtin PySem.W.SL.s7097527257260152453x26⟩, ⟨PyData.keyHash P (mkS [95,95,115,112,101,99,95,95]), .str (mkS [95,95,115,112,101,99,95,95]) 169, .none⟩, ⟨PyData.keyHash P (mkS [95,95,97,110,110,111,116,97,116,105,111,110,115,95,95]), .str (mkS [95,95,97,110,110,111,116,97,116,105,111,110,115,95,95]) 170, .ref 6⟩, ⟨PyData.keyHash P (mkS [95,95,98,117,105,108,116,105,110,115,95,95]), .str (mkS [95,95,98,117,105,108,116,105,110,115,95,95]) 171, .ref 4⟩, ⟨PyData.keyHash P (mkS [95,95,102,105,108,101,95,95]), .str (mkS [95,95,102,105,108,101,95,95]) 173, .str (mkS [47,99,108,97,105,109,47,99,117,116,46,112,121]) 172⟩, ⟨PyData.keyHash P (mkS [95,95,99,97,99,104,101,100,95,95]), .str (mkS [95,95,99,97,99,104,101,100,95,95]) 174, .none⟩, ⟨PyData.keyHash P (mkS [114,103,98,95,116,111,95,104,108,115]), .str (mkS [114,103,98,95,116,111,95,104,108,115]) 207, .ref 21⟩, ⟨PyData.keyHash P (mkS [114,103,98,95,116,111,95,104,115,118]), .str (mkS [114,103,98,95,116,111,95,104,115,118]) 225, .ref 28⟩, ⟨PyData.keyHash P (mkS [95,115,116,114,105,112,95,112,97,100,100,105,110,103]), .str (mkS [95,115,116,114,105,112,95,112,97,100,100,105,110,103]) 237, .ref 35⟩, ⟨PyData.keyHash P (mkS [98,49,95,115,101,116]), .str (mkS [98,49,95,115,101,116]) 299, .ref 43⟩, ⟨PyData.keyHash P (mkS [105,110,95,116,97,98,108,101,95,98,49]), .str (mkS [105,110,95,116,97,98,108,101,95,98,49]) 306, .ref 53⟩, ⟨PyData.keyHash P (mkS [98,51,95,101,120,99,101,112,116,105,111,110,115]), .str (mkS [98,51,95,101,120,99,101,112,116,105,111,110,115]) 2257, .ref 54⟩, ⟨PyData.keyHash P (mkS [109,97,112,95,116,97,98,108,101,95,98,51]), .str (mkS [109,97,112,95,116,97,98,108,101,95,98,51]) 2265, .ref 99⟩, ⟨PyData.keyHash P (mkS [105,110,95,116,97,98,108,101,95,99,49,49]), .str (mkS [105,110,95,116,97,98,108,101,95,99,49,49]) 2272, .ref 106⟩, ⟨PyData.keyHash P (mkS [95,108,97,119,95,100,114,97,119,115]), .str (mkS [95,108,97,119,95,100,114,97,119,115]) 2280, .ref 111⟩, ⟨PyData.keyHash P (mkS [95,108,97,119,95,102,105,103,117,114,101,115]), .str (mkS [95,108,97,119,95,102,105,103,117,114,101,115]) 2286, .ref 116⟩, ⟨PyData.keyHash P (mkS [95,108,97,119,95,112,105,101,99,101]), .str (mkS [95,108,97,119,95,112,105,101,99,101]) 2295, .ref 123⟩, ⟨PyData.keyHash P (mkS [95,108,97,119,95,119,111,114,100]), .str (mkS [95,108,97,119,95,119,111,114,100]) 2301, .ref 128⟩, ⟨PyData.keyHash P (mkS [95,108,97,119,95,107,101,112,116]), .str (mkS [95,108,97,119,95,107,101,112,116]) 2307, .ref 133⟩, ⟨PyData.keyHash P (mkS [95,108,97,119,95,116,111,108,100]), .str (mkS [95,108,97,119,95,116,111,108,100]) 2313, .ref 138⟩, ⟨PyData.keyHash P (mkS [95,108,97,119,95,115,117,109]), .str (mkS [95,108,97,119,95,115,117,109]) 2325, .ref 145⟩, ⟨PyData.keyHash P (mkS [95,108,97,119,95,109,111,118,101,115]), .str (mkS [95,108,97,119,95,109,111,118,101,115]) 2340, .ref 152⟩, ⟨PyData.keyHash P (mkS [95,108,97,119,95,104,111,108,100,115]), .str (mkS [95,108,97,119,95,104,111,108,100,115]) 2346, .ref 157⟩, ⟨PyData.keyHash P (mkS [108,97,119]), .str (mkS [108,97,119]) 2357, .ref 164⟩]) 27, (Array.mk [])⟩
noncomputable def o12_16 (p : Program) (P : Params) : Obj := ⟨.none, none, .fields (Array.mk [.int 2 0, .int 0 0, .ref 20, .int 25 0, .int 0 0, .ref 27, .int 45 0, .int 0 0, .ref 34, .int 57 0, .int 0 0, .ref 52, .int 60 0, .int 0 0, .ref 98, .int 65 0, .int 0 0, .ref 105, .int 68 0, .int 0 0, .ref 110, .int 70 0, .int 0 0, .ref 115, .int 72 0, .int 0 0, .ref 122, .int 84 0, .int 0 0, .ref 127, .int 87 0, .int 0 0, .ref 132, .int 90 0, .int 0 0, .ref 137, .int 98 0, .int 0 0, .ref 144, .int 103 0, .int 0 0, .ref 151, .int 122 0, .int 0 0, .ref 156, .int 134 0, .int 0 0, .ref 163]), (Array.mk [])⟩
noncomputable def o158_0 (p : Program) (P : Params) : Obj := ⟨.type PySem.W.SL.s2766695959194262286x5, none, .seq (Array.mk []) 0, (Array.mk [])⟩
noncomputable def o159_0 (p : Program) (P : Params) : Obj := ⟨.none, none, .fields (Array.mk []), (Array.mk [])⟩
noncomputable def o160_0 (p : Program) (P : Params) : Obj := ⟨.type PySem.W.SL.s2766695959194262286x5, none, .seq (Array.mk [.str (mkS [115,99,114,105,112,116]) 2350, .str (mkS [100,114,97,119,115]) 2351, .str (mkS [102,105,114,115,116]) 2352, .str (mkS [115,101,99,111,110,100]) 2353, .str (mkS [115,112,111,116]) 2354]) 0, (Array.mk [])⟩
noncomputable def o161_0 (p : Program) (P : Params) : Obj := ⟨.type PySem.W.SL.s2766695959194262286x5, none, .seq (Array.mk []) 0, (Array.mk [])⟩
noncomputable def o162_0 (p : Program) (P : Params) : Obj := ⟨.none, none, .func { name := (mkS [108,97,119]), qualname := (mkS [108,97,119]), params := fa (stmtAt p 21), body := .stmts (fb (stmtAt p 21)), scope := fs (stmtAt p 21), globals := 0, closure := [], defaults := .none, kwdefaults := .none, doc := .none, pyModule := .none, annotations := none, code := .none, closureTuple := .none, builtins := 0 }, (Array.mk [])⟩
noncomputable def o163_0 (p : Program) (P : Params) : Obj := ⟨.type PySem.W.SL.s5856160107412720595x4, none, .fields (Array.mk [.str (mkS [108,97,119]) 2347, .str (mkS [108,97,119]) 2348, .str (mkS [47,99,108,97,105,109,47,99,117,116,46,112,121]) 2349, .int 134 0, .int 1 0, .int 0 0, .int 0 0, .int 3 0, .ref 158, .bool true, .int 181 0, .ref 159, .none, .ref 160, .ref 161, .ref 162, .int 2355 0, .int 134 0, .str (mkS [47,99,108,97,105,109,47,99,117,116,46,112,121]) 2356]), (Array.mk [])⟩
noncomputable def o164_0 (p : Program) (P : Params) : Obj := ⟨.type PySem.W.SL.s7174869446012820540x8, none, .func { name := (mkS [108,97,119]), qualname := (mkS [108,97,119]), params := fa (stmtAt p 21), body := .stmts (fb (stmtAt p 21)), scope := fs (stmtAt p 21), globals := 3, closure := [], defaults := .none, kwdefaults := .none, doc := .none, pyModule := .str (mkS [108,97,119,95,116,112,48,48,51,50,95,48,49]) 2273, annotations := none, code := .ref 163, closureTuple := .none, builtins := 0 }, (Array.mk [])⟩
noncomputable def t21 (p : Program) (P : Params) : BT := ((((((((((t20 p P).ins 3 (o3_22 p P)).ins 12 (o12_16 p P)).ins 158 (o158_0 p P)).ins 159 (o159_0 p P)).ins 160 (o160_0 p P)).ins 161 (o161_0 p P)).ins 162 (o162_0 p P)).ins 163 (o163_0 p P)).ins 164 (o164_0 p P))
noncomputable def hEnd (p : Program) (P : Params) : Heap := ⟨Array.mk [bo0 p P, bo1 p P, bo2 p P, o3_22 p P, bo4 p P, bo5 p P, bo6 p P, bo7 p P, bo8 p P, bo9 p P, bo10 p P, o11_0 p P, o12_16 p P, o13_0 p P, o14_0 p P, o15_0 p P, o16_0 p P, o17_0 p P, o18_0 p P, o19_0 p P, o20_0 p P, o21_0 p P, o22_0 p P, o23_0 p P, o24_0 p P, o25_0 p P, o26_0 p P, o27_0 p P, o28_0 p P, o29_0 p P, o30_0 p P, o31_0 p P, o32_0 p P, o33_0 p P, o34_0 p P, o35_0 p P, o36_0 p P, o37_0 p P, o38_0 p P, o39_0 p P, o40_0 p P, o41_0 p P, o42_0 p P, o43_0 p P, o44_0 p P, o45_0 p P, o46_0 p P, o47_0 p P, o48_0 p P, o49_0 p P, o50_0 p P, o51_0 p P, o52_0 p P, o53_0 p P, o54_38 p P, o55_0 p P, o56_0 p P, o57_0 p P, o58_0 p P, o59_0 p P, o60_0 p P, o61_0 p P, o62_0 p P, o63_0 p P, o64_0 p P, o65_0 p P, o66_0 p P, o67_0 p P, o68_0 p P, o69_0 p P, o70_0 p P, o71_0 p P, o72_0 p P, o73_0 p P, o74_0 p P, o75_0 p P, o76_0 p P, o77_0 p P, o78_0 p P, o79_0 p P, o80_0 p P, o81_0 p P, o82_0 p P, o83_0 p P, o84_0 p P, o85_0 p P, o86_0 p P, o87_0 p P, o88_0 p P, o89_0 p P, o90_0 p P, o91_0 p P, o92_0 p P, o93_0 p P, o94_0 p P, o95_0 p P, o96_0 p P, o97_0 p P, o98_0 p P, o99_0 p P, o100_0 p P, o101_0 p P, o102_0 p P, o103_0 p P, o104_0 p P, o105_0 p P, o106_0 p P, o107_0 p P, o108_0 p P, o109_0 p P, o110_0 p P, o111_0 p P, o112_0 p P, o113_0 p P, o114_0 p P, o115_0 p P, o116_0 p P, o117_0 p P, o118_0 p P, o119_0 p P, o120_0 p P, o121_0 p P, o122_0 p P, o123_0 p P, o124_0 p P, o125_0 p P, o126_0 p P, o127_0 p P, o128_0 p P, o129_0 p P, o130_0 p P, o131_0 p P, o132_0 p P, o133_0 p P, o134_0 p P, o135_0 p P, o136_0 p P, o137_0 p P, o138_0 p P, o139_0 p P, o140_0 p P, o141_0 p P, o142_0 p P, o143_0 p P, o144_0 p P, o145_0 p P, o146_0 p P, o147_0 p P, o148_0 p P, o149_0 p P, o150_0 p P, o151_0 p P, o152_0 p P, o153_0 p P, o154_0 p P, o155_0 p P, o156_0 p P, o157_0 p P, o158_0 p P, o159_0 p P, o160_0 p P, o161_0 p P, o162_0 p P, o163_0 p P, o164_0 p P], {}⟩
theorem pc9 (w : World) (os : OsState) : RunE w 31 ⟨t8 pq w.params, 93, {}, Array.mk [], {}, 2258, os⟩ ⟨59, 0, 59, 13⟩ (twExecs [stmtAt pq 9] (envT pq)) ⟨t9 pq w.params, 100, {}, Array.mk [], {}, 2266, os⟩ ⟨60, 0, 64, 23⟩ .next := by kernel_rfl
theorem pc10 (w : World) (os : OsState) : RunE w 30 ⟨t9 pq w.params, 100, {}, Array.mk [], {}, 2266, os⟩ ⟨60, 0, 64, 23⟩ (twExecs [stmtAt pq 10] (envT pq)) ⟨t10 pq w.params, 107, {}, Array.mk [], {}, 2273, os⟩ ⟨65, 0, 66, 22⟩ .next := by kernel_rfl
theorem pc11 (w : World) (os : OsState) : RunE w 10 ⟨t10 pq w.params, 107, {}, Array.mk [], {}, 2273, os⟩ ⟨65, 0, 66, 22⟩ (twExecs [stmtAt pq 11] (envT pq)) ⟨t11 pq w.params, 107, {}, Array.mk [], {}, 2275, os⟩ ⟨67, 0, 67, 8⟩ .next := by kernel_rfl
theorem pc12 (w : World) (os : OsState) : RunE w 27 ⟨t11 pq w.params, 107, {}, Array.mk [], {}, 2275, os⟩ ⟨67, 0, 67, 8⟩ (twExecs [stmtAt pq 12] (envT pq)) ⟨t12 pq w.params, 112, {}, Array.mk [], {}, 2281, os⟩ ⟨68, 0, 69, 104⟩ .next := by kernel_rfl
theorem pc13 (w : World) (os : OsState) : RunE w 27 ⟨t12 pq w.params, 112, {}, Array.mk [], {}, 2281, os⟩ ⟨68, 0, 69, 104⟩ (twExecs [stmtAt pq 13] (envT pq)) ⟨t13 pq w.params, 117, {}, Array.mk [], {}, 2287, os⟩ ⟨70, 0, 71, 88⟩ .next := by kernel_rfl
theorem pc14 (w : World) (os : OsState) : RunE w 32 ⟨t13 pq w.params, 117, {}, Array.mk [], {}, 2287, os⟩ ⟨70, 0, 71, 88⟩ (twExecs [stmtAt pq 14] (envT pq)) ⟨t14 pq w.params, 124, {}, Array.mk [], {}, 2296, os⟩ ⟨72, 0, 83, 60⟩ .next := by kernel_rfl
theorem pc15 (w : World) (os : OsState) : RunE w 27 ⟨t14 pq w.params, 124, {}, Array.mk [], {}, 2296, os⟩ ⟨72, 0, 83, 60⟩ (twExecs [stmtAt pq 15] (envT pq)) ⟨t15 pq w.params, 129, {}, Array.mk [], {}, 2302, os⟩ ⟨84, 0, 86, 82⟩ .next := by kernel_rfl
theorem pc16 (w : World) (os : OsState) : RunE w 27 ⟨t15 pq w.params, 129, {}, Array.mk [], {}, 2302, os⟩ ⟨84, 0, 86, 82⟩ (twExecs [stmtAt pq 16] (envT pq)) ⟨t16 pq w.params, 134, {}, Array.mk [], {}, 2308, os⟩ ⟨87, 0, 89, 133⟩ .next := by kernel_rfl
theorem pc17 (w : World) (os : OsState) : RunE w 27 ⟨t16 pq w.params, 134, {}, Array.mk [], {}, 2308, os⟩ ⟨87, 0, 89, 133⟩ (twExecs [stmtAt pq 17] (envT pq)) ⟨t17 pq w.params, 139, {}, Array.mk [], {}, 2314, os⟩ ⟨90, 0, 97, 73⟩ .next := by kernel_rfl
theorem pc18 (w : World) (os : OsState) : RunE w 35 ⟨t17 pq w.params, 139, {}, Array.mk [], {}, 2314, os⟩ ⟨90, 0, 97, 73⟩ (twExecs [stmtAt pq 18] (envT pq)) ⟨t18 pq w.params, 146, {}, Array.mk [], {}, 2326, os⟩ ⟨98, 0, 102, 16⟩ .next := by kernel_rfl
theorem pc19 (w : World) (os : OsState) : RunE w 38 ⟨t18 pq w.params, 146, {}, Array.mk [], {}, 2326, os⟩ ⟨98, 0, 102, 16⟩ (twExecs [stmtAt pq 19] (envT pq)) ⟨t19 pq w.params, 153, {}, Array.mk [], {}, 2341, os⟩ ⟨103, 0, 121, 13⟩ .next := by kernel_rfl
theorem pc20 (w : World) (os : OsState) : RunE w 27 ⟨t19 pq w.params, 153, {}, Array.mk [], {}, 2341, os⟩ ⟨103, 0, 121, 13⟩ (twExecs [stmtAt pq 20] (envT pq)) ⟨t20 pq w.params, 158, {}, Array.mk [], {}, 2347, os⟩ ⟨122, 0, 133, 99⟩ .next := by kernel_rfl
theorem pc21 (w : World) (os : OsState) : RunE w 34 ⟨t20 pq w.params, 158, {}, Array.mk [], {}, 2347, os⟩ ⟨122, 0, 133, 99⟩ (twExecs [stmtAt pq 21] (envT pq)) ⟨t21 pq w.params, 165, {}, Array.mk [], {}, 2358, os⟩ ⟨134, 0, 139, 78⟩ .next := by kernel_rfl
noncomputable def exD (t : Str) (tpos : Pos) (ks : List (Option PySem.Expr)) (vs : List PySem.Expr) (dpos spos : Pos) (env : Env) :
  {rest : Value → Sem Flow // exec (.Assign [.Name t tpos] (.Dict ks vs dpos) spos) env = (Sem.at spos .pure).bind fun _ => ((Sem.at dpos .pure).bind fun _ => dictDisplay ((evalEachOpt ks env).zip ((evalEach vs env).map fun v => do let x ← v; standAt dpos; pure x))).bind rest} := ⟨_, rfl⟩
noncomputable abbrev nm8 : Str := mkS [98,51,95,101,120,99,101,112,116,105,111,110,115]
noncomputable abbrev tpos8 : Pos := ⟨59, 0, 59, 13⟩
noncomputable abbrev spos8 : Pos := ⟨59, 0, 59, 8704⟩
noncomputable abbrev pos7 : Pos := ⟨57, 0, 58, 30⟩
noncomputable def restD : Value → Sem Flow := (exD nm8 tpos8 (dKeys (stmtAt pq 8)) (dVals (stmtAt pq 8)) dpos spos8 (envT pq)).1
theorem st8 : stmtAt pq 8 = .Assign [.Name nm8 tpos8] (.Dict (dKeys (stmtAt pq 8)) (dVals (stmtAt pq 8)) dpos) spos8 := by kernel_rfl
noncomputable abbrev S7 (w : World) (os : OsState) : SharedT := ⟨t7 pq w.params, 54, {}, Array.mk [], {}, 307, os⟩
noncomputable abbrev S8 (w : World) (os : OsState) : SharedT := ⟨t8 pq w.params, 93, {}, Array.mk [], {}, 2258, os⟩
noncomputable abbrev Sub0 (w : World) (os : OsState) : Prop := RunG w 224 (S7 w os) dpos (refW (twSub (chunkT 0)) id) (SD 0 w os) dpos (.ret (.ref 54))
noncomputable abbrev EndRun (w : World) (os : OsState) : Prop := RunG w 8 (SL2 (TD 37 w.params) os) dpos ((restD (.ref 54)).wrap doneF deadEnd id id) (S8 w os) tpos8 .next
theorem chunk0 {w : World} {os : OsState} (hs : Sub0 w os) : Rn w 224 (S7 w os) dpos (LS ddU.1 ((chunkT 0).map sm) ((none, []) : SV)) (SD 0 w os) dpos (.yield ((some 54, []) : SV)) := by
  have hlen : (chunkT 0).length = 17 := by
    unfold chunkT
    rw [List.length_take, List.length_drop, pairs_len]; rfl
  have hne : chunkT 0 ≠ [] := fun e => by rw [e] at hlen; cases hlen
  generalize hr : (chunkT 0).dropLast = r
  generalize hx : (chunkT 0).getLast hne = x
  have e : chunkT 0 = r ++ [x] := by rw [← hr, ← hx, List.dropLast_concat_getLast]
  have hrl : r.length = 16 := by rw [← hr, List.length_dropLast, hlen]
  rw [Sub0, e] at hs
  rw [e, List.map_append, List.map_cons, List.map_nil, LS_acc none [sm x] r [] (by simp only [List.length_nil]; omega), List.nil_append]
  show Rn w _ _ _ ((ddU.1 (sm x) (none, r)).bind _) _ _ _
  rw [body_full_none r x hrl]
  have sub : Rn w 224 (S7 w os) dpos (subDict (r ++ [x])) (SD 0 w os) dpos 54 := by
    rw [PySem.W.Fast.te11913375310210876947]
    exact Rn.of_run (f := .ret (.ref 54)) (res := fun a => .ret (.ref a)) (fun b hb => by cases hb; rfl) hs
  exact Rn.bind (n := 224) (m := 0) (Rn.bind (n := 224) (m := 0) (Rn.bind (m := 0) sub Rn.pure) Rn.pure) Rn.pure
theorem display {w : World} {os : OsState} (h0 : Sub0 w os) (hs : ∀ j, j < 37 → SubOk w os j) (hl : LastOk w (TD 37 w.params) os) :
    Rn w (224 + ((224 + (5 + 6 * 17)) * 37 + (54 + (5 + 6 * 4)))) (S7 w os) dpos (dictDisplay ((evalEachOpt (dKeys (stmtAt pq 8)) (envT pq)).zip ((evalEach (dVals (stmtAt pq 8)) (envT pq)).map fun v => do let x ← v; standAt dpos; pure x)))
      (SL2 (TD 37 w.params) os) dpos (.ref 54) := by
  rw [items_eq _ _ keys_some, ddU_IT]
  have e : List.zipWith pairT (dKeys (stmtAt pq 8)) (dVals (stmtAt pq 8)) = chunkT 0 ++ pairsT.drop (17 * (0 + 1)) := by
    unfold chunkT
    rw [Nat.mul_zero, List.drop_zero, Nat.zero_add, Nat.mul_one, List.take_append_drop]
    rfl
  rw [e, List.map_append, IT_app, PySem.Sem.bind_assoc]
  exact Rn.bind (chunk0 h0) (chunks hs hl 37 0 rfl)
theorem dict_stmt {w : World} {os : OsState} (h0 : Sub0 w os) (hs : ∀ j, j < 37 → SubOk w os j) (hl : LastOk w (TD 37 w.params) os) (he : EndRun w os) :
    Rn w ((1 + ((1 + (224 + ((224 + (5 + 6 * 17)) * 37 + (54 + (5 + 6 * 4))))) + 8)) + 0) (S7 w os) pos7 (execs [stmtAt pq 8] (envT pq)) (S8 w os) tpos8 .next := by
  show Rn w _ _ _ ((exec (stmtAt pq 8) (envT pq)).bind _) _ _ _
  refine Rn.bind (a := .next) ?_ Rn.pure
  rw [st8, (exD nm8 tpos8 _ _ dpos spos8 (envT pq)).2]
  exact Rn.bind Rn.at (Rn.bind (Rn.bind Rn.at (display h0 hs hl)) (Rn.of_run (res := id) (fun b hb => hb) he))
theorem pcR {w : World} {n : Nat} {S S' : SharedT} {p p' : Pos} {l : List Stmt} (h : RunE w n S p (twExecs l (envT pq)) S' p' .next) : Rn w n S p (execs l (envT pq)) S' p' .next :=
  Rn.eq (by rw [PySem.W.Fast.te12563942051412417395]) (Rn.of_run (res := id) (fun b hb => hb) h)
theorem rest_cons {w : World} {n N : Nat} {S S' : SharedT} {p p' : Pos} {i : Nat} {rest : List Stmt} {r : Shared} (h : Rn w n S p (execs [stmtAt pq i] (envT pq)) S' p' .next)
    (k : topRun treeTable pq w 11 annT N S'.abs (restOf rest (envT pq) (codT pq) p' topB) = some r) : topRun treeTable pq w 11 annT (n + N) S.abs (restOf (stmtAt pq i :: rest) (envT pq) (codT pq) p topB) = some r := by
  have e := execs_app_wrap (env := envT pq) [stmtAt pq i] rest doneF (leaveH (envT pq)) id id
  rw [List.singleton_append] at e
  unfold restOf at k ⊢
  rw [e]
  exact h _ _ N r k
theorem body_eq : behindTheImports pq = [stmtAt pq 0, stmtAt pq 1, stmtAt pq 2, stmtAt pq 3, stmtAt pq 4, stmtAt pq 5, stmtAt pq 6, stmtAt pq 7, stmtAt pq 8, stmtAt pq 9, stmtAt pq 10, stmtAt pq 11, stmtAt pq 12, stmtAt pq 13, stmtAt pq 14, stmtAt pq 15, stmtAt pq 16, stmtAt pq 17, stmtAt pq 18, stmtAt pq 19, stmtAt pq 20, stmtAt pq 21] := by kernel_rfl
noncomputable def s0 (w : World) (os : OsState) : Shared := ⟨boot_heap w.params, Array.mk [], boot_drawn, boot_toks, os⟩
noncomputable def sP (w : World) (os : OsState) : Shared := ⟨hPre pq w.params, Array.mk [], {}, 187, os⟩
noncomputable abbrev SB (w : World) (os : OsState) : SharedT := ⟨tB pq w.params, 15, {}, Array.mk [], {}, 187, os⟩
noncomputable def sE (w : World) (os : OsState) : Shared := ⟨hEnd pq w.params, Array.mk [], {}, 2358, os⟩
theorem pre_go (w : World) (os : OsState) : topGo treeTable pq w 11 annT 12 (s0 w os) (topStub pq) = some (sP w os, ⟨denote treeTable (codT pq), codT pq, noPos, topB⟩) := by
  rw [PySem.W.Fast.te15667345088766844465, PySem.W.Fast.te14364793385576792824, PySem.W.Fast.te11892475500146522536]; kernel_rfl
theorem block_run (w : World) (os : OsState) : segRun treeTable pq w 11 annT 1 1 (sP w os) (blockOf (behindTheImports pq) (envT pq) (codT pq) noPos topB) = some (.next, (SB w os).abs, codT pq, noPos) := by
  rw [PySem.W.Fast.te14374325043358763698, PySem.W.Fast.te14364793385576792824]; kernel_rfl
theorem fin_run (w : World) (os : OsState) : topRun treeTable pq w 11 annT 2 (⟨t21 pq w.params, 165, {}, Array.mk [], {}, 2358, os⟩ : SharedT).abs (restOf [] (envT pq) (codT pq) ⟨134, 0, 139, 78⟩ topB) = some (sE w os) := by
  rw [PySem.W.Fast.te14082659384304107361, PySem.W.Fast.te14364793385576792824]; kernel_rfl
theorem so0 (w : World) (os : OsState) : SubOk w os 0 := ⟨byRow2 "special-get-raises" (P := fun w => SubRun w os 0) (fun w => by kernel_rfl) (fun w => by kernel_rfl) w, by kernel_rfl, by kernel_rfl⟩
theorem so1 (w : World) (os : OsState) : SubOk w os 1 := ⟨byRow2 "special-get-raises" (P := fun w => SubRun w os 1) (fun w => by kernel_rfl) (fun w => by kernel_rfl) w, by kernel_rfl, by kernel_rfl⟩
theorem so2 (w : World) (os : OsState) : SubOk w os 2 := ⟨byRow2 "special-get-raises" (P := fun w => SubRun w os 2) (fun w => by kernel_rfl) (fun w => by kernel_rfl) w, by kernel_rfl, by kernel_rfl⟩
theorem so3 (w : World) (os : OsState) : SubOk w os 3 := ⟨byRow2 "special-get-raises" (P := fun w => SubRun w os 3) (fun w => by kernel_rfl) (fun w => by kernel_rfl) w, by kernel_rfl, by kernel_rfl⟩
theorem so4 (w : World) (os : OsState) : SubOk w os 4 := ⟨byRow2 "special-get-raises" (P := fun w => SubRun w os 4) (fun w => by kernel_rfl) (fun w => by kernel_rfl) w, by kernel_rfl, by kernel_rfl⟩
theorem so5 (w : World) (os : OsState) : SubOk w os 5 := ⟨byRow2 "special-get-raises" (P := fun w => SubRun w os 5) (fun w => by kernel_rfl) (fun w => by kernel_rfl) w, by kernel_rfl, by kernel_rfl⟩
theorem so6 (w : World) (os : OsState) : SubOk w os 6 := ⟨byRow2 "special-get-raises" (P := fun w => SubRun w os 6) (fun w => by kernel_rfl) (fun w => by kernel_rfl) w, by kernel_rfl, by kernel_rfl⟩
theorem so7 (w : World) (os : OsState) : SubOk w os 7 := ⟨byRow2 "special-get-raises" (P := fun w => SubRun w os 7) (fun w => by kernel_rfl) (fun w => by kernel_rfl) w, by kernel_rfl, by kernel_rfl⟩
theorem so8 (w : World) (os : OsState) : SubOk w os 8 := ⟨byRow2 "special-get-raises" (P := fun w => SubRun w os 8) (fun w => by kernel_rfl) (fun w => by kernel_rfl) w, by kernel_rfl, by kernel_rfl⟩
theorem so9 (w : World) (os : OsState) : SubOk w os 9 := ⟨byRow2 "special-get-raises" (P := fun w => SubRun w os 9) (fun w => by kernel_rfl) (fun w => by kernel_rfl) w, by kernel_rfl, by kernel_rfl⟩
theorem so10 (w : World) (os : OsState) : SubOk w os 10 := ⟨byRow2 "special-get-raises" (P := fun w => SubRun w os 10) (fun w => by kernel_rfl) (fun w => by kernel_rfl) w, by kernel_rfl, by kernel_rfl⟩
theorem so11 (w : World) (os : OsState) : SubOk w os 11 := ⟨byRow2 "special-get-raises" (P := fun w => SubRun w os 11) (fun w => by kernel_rfl) (fun w => by kernel_rfl) w, by kernel_rfl, by kernel_rfl⟩
theorem so12 (w : World) (os : OsState) : SubOk w os 12 := ⟨byRow2 "special-get-raises" (P := fun w => SubRun w os 12) (fun w => by kernel_rfl) (fun w => by kernel_rfl) w, by kernel_rfl, by kernel_rfl⟩
theorem so13 (w : World) (os : OsState) : SubOk w os 13 := ⟨byRow2 "special-get-raises" (P := fun w => SubRun w os 13) (fun w => by kernel_rfl) (fun w => by kernel_rfl) w, by kernel_rfl, by kernel_rfl⟩
theorem so14 (w : World) (os : OsState) : SubOk w os 14 := ⟨byRow2 "special-get-raises" (P := fun w => SubRun w os 14) (fun w => by kernel_rfl) (fun w => by kernel_rfl) w, by kernel_rfl, by kernel_rfl⟩
theorem so15 (w : World) (os : OsState) : SubOk w os 15 := ⟨byRow2 "special-get-raises" (P := fun w => SubRun w os 15) (fun w => by kernel_rfl) (fun w => by kernel_rfl) w, by kernel_rfl, by kernel_rfl⟩
theorem so16 (w : World) (os : OsState) : SubOk w os 16 := ⟨byRow2 "special-get-raises" (P := fun w => SubRun w os 16) (fun w => by kernel_rfl) (fun w => by kernel_rfl) w, by kernel_rfl, by kernel_rfl⟩
theorem so17 (w : World) (os : OsState) : SubOk w os 17 := ⟨byRow2 "special-get-raises" (P := fun w => SubRun w os 17) (fun w => by kernel_rfl) (fun w => by kernel_rfl) w, by kernel_rfl, by kernel_rfl⟩
theorem so18 (w : World) (os : OsState) : SubOk w os 18 := ⟨byRow2 "special-get-raises" (P := fun w => SubRun w os 18) (fun w => by kernel_rfl) (fun w => by kernel_rfl) w, by kernel_rfl, by kernel_rfl⟩
theorem so19 (w : World) (os : OsState) : SubOk w os 19 := ⟨byRow2 "special-get-raises" (P := fun w => SubRun w os 19) (fun w => by kernel_rfl) (fun w => by kernel_rfl) w, by kernel_rfl, by kernel_rfl⟩
theorem so20 (w : World) (os : OsState) : SubOk w os 20 := ⟨byRow2 "special-get-raises" (P := fun w => SubRun w os 20) (fun w => by kernel_rfl) (fun w => by kernel_rfl) w, by kernel_rfl, by kernel_rfl⟩
theorem so21 (w : World) (os : OsState) : SubOk w os 21 := ⟨byRow2 "special-get-raises" (P := fun w => SubRun w os 21) (fun w => by kernel_rfl) (fun w => by kernel_rfl) w, by kernel_rfl, by kernel_rfl⟩
theorem so22 (w : World) (os : OsState) : SubOk w os 22 := ⟨byRow2 "special-get-raises" (P := fun w => SubRun w os 22) (fun w => by kernel_rfl) (fun w => by kernel_rfl) w, by kernel_rfl, by kernel_rfl⟩
theorem so23 (w : World) (os : OsState) : SubOk w os 23 := ⟨byRow2 "special-get-raises" (P := fun w => SubRun w os 23) (fun w => by kernel_rfl) (fun w => by kernel_rfl) w, by kernel_rfl, by kernel_rfl⟩
theorem so24 (w : World) (os : OsState) : SubOk w os 24 := ⟨byRow2 "special-get-raises" (P := fun w => SubRun w os 24) (fun w => by kernel_rfl) (fun w => by kernel_rfl) w, by kernel_rfl, by kernel_rfl⟩
theorem so25 (w : World) (os : OsState) : SubOk w os 25 := ⟨byRow2 "special-get-raises" (P := fun w => SubRun w os 25) (fun w => by kernel_rfl) (fun w => by kernel_rfl) w, by kernel_rfl, by kernel_rfl⟩
theorem so26 (w : World) (os : OsState) : SubOk w os 26 := ⟨byRow2 "special-get-raises" (P := fun w => SubRun w os 26) (fun w => by kernel_rfl) (fun w => by kernel_rfl) w, by kernel_rfl, by kernel_rfl⟩
theorem so27 (w : World) (os : OsState) : SubOk w os 27 := ⟨byRow2 "special-get-raises" (P := fun w => SubRun w os 27) (fun w => by kernel_rfl) (fun w => by kernel_rfl) w, by kernel_rfl, by kernel_rfl⟩
theorem so28 (w : World) (os : OsState) : SubOk w os 28 := ⟨byRow2 "special-get-raises" (P := fun w => SubRun w os 28) (fun w => by kernel_rfl) (fun w => by kernel_rfl) w, by kernel_rfl, by kernel_rfl⟩
theorem so29 (w : World) (os : OsState) : SubOk w os 29 := ⟨byRow2 "special-get-raises" (P := fun w => SubRun w os 29) (fun w => by kernel_rfl) (fun w => by kernel_rfl) w, by kernel_rfl, by kernel_rfl⟩
theorem so30 (w : World) (os : OsState) : SubOk w os 30 := ⟨byRow2 "special-get-raises" (P := fun w => SubRun w os 30) (fun w => by kernel_rfl) (fun w => by kernel_rfl) w, by kernel_rfl, by kernel_rfl⟩
theorem so31 (w : World) (os : OsState) : SubOk w os 31 := ⟨byRow2 "special-get-raises" (P := fun w => SubRun w os 31) (fun w => by kernel_rfl) (fun w => by kernel_rfl) w, by kernel_rfl, by kernel_rfl⟩
theorem so32 (w : World) (os : OsState) : SubOk w os 32 := ⟨byRow2 "special-get-raises" (P := fun w => SubRun w os 32) (fun w => by kernel_rfl) (fun w => by kernel_rfl) w, by kernel_rfl, by kernel_rfl⟩
theorem so33 (w : World) (os : OsState) : SubOk w os 33 := ⟨byRow2 "special-get-raises" (P := fun w => SubRun w os 33) (fun w => by kernel_rfl) (fun w => by kernel_rfl) w, by kernel_rfl, by kernel_rfl⟩
theorem so34 (w : World) (os : OsState) : SubOk w os 34 := ⟨byRow2 "special-get-raises" (P := fun w => SubRun w os 34) (fun w => by kernel_rfl) (fun w => by kernel_rfl) w, by kernel_rfl, by kernel_rfl⟩
theorem so35 (w : World) (os : OsState) : SubOk w os 35 := ⟨byRow2 "special-get-raises" (P := fun w => SubRun w os 35) (fun w => by kernel_rfl) (fun w => by kernel_rfl) w, by kernel_rfl, by kernel_rfl⟩
theorem so36 (w : World) (os : OsState) : SubOk w os 36 := ⟨byRow2 "special-get-raises" (P := fun w => SubRun w os 36) (fun w => by kernel_rfl) (fun w => by kernel_rfl) w, by kernel_rfl, by kernel_rfl⟩
theorem soL (w : World) (os : OsState) : LastOk w (TD 37 w.params) os := ⟨byRow2 "special-get-raises" (P := fun w => RunG w 54 (SL0 (TD 37 w.params) os) dpos (refW ((twSub (pairsT.drop 646)).keep [.ref 54]) id) (SL1 (TD 37 w.params) os) dpos (.ret (.ref 92))) (fun w => by kernel_rfl) (fun w => by kernel_rfl) w, by kernel_rfl, by kernel_rfl⟩
theorem so_all (w : World) (os : OsState) : ∀ j, j < 37 → SubOk w os j
  | 0, _ => so0 w os
  | 1, _ => so1 w os
  | 2, _ => so2 w os
  | 3, _ => so3 w os
  | 4, _ => so4 w os
  | 5, _ => so5 w os
  | 6, _ => so6 w os
  | 7, _ => so7 w os
  | 8, _ => so8 w os
  | 9, _ => so9 w os
  | 10, _ => so10 w os
  | 11, _ => so11 w os
  | 12, _ => so12 w os
  | 13, _ => so13 w os
  | 14, _ => so14 w os
  | 15, _ => so15 w os
  | 16, _ => so16 w os
  | 17, _ => so17 w os
  | 18, _ => so18 w os
  | 19, _ => so19 w os
  | 20, _ => so20 w os
  | 21, _ => so21 w os
  | 22, _ => so22 w os
  | 23, _ => so23 w os
  | 24, _ => so24 w os
  | 25, _ => so25 w os
  | 26, _ => so26 w os
  | 27, _ => so27 w os
  | 28, _ => so28 w os
  | 29, _ => so29 w os
  | 30, _ => so30 w os
  | 31, _ => so31 w os
  | 32, _ => so32 w os
  | 33, _ => so33 w os
  | 34, _ => so34 w os
  | 35, _ => so35 w os
  | 36, _ => so36 w os
  | n + 37, h => absurd h (by omega)
theorem so_0 (w : World) (os : OsState) : Sub0 w os := byRow2 "special-get-raises" (P := fun w => Sub0 w os) (fun w => by kernel_rfl) (fun w => by kernel_rfl) w
theorem end_run (w : World) (os : OsState) : EndRun w os := by kernel_rfl
theorem pc8 (w : World) (os : OsState) : Rn w ((1 + ((1 + (224 + ((224 + (5 + 6 * 17)) * 37 + (54 + (5 + 6 * 4))))) + 8)) + 0) (S7 w os) pos7 (execs [stmtAt pq 8] (envT pq)) (S8 w os) tpos8 .next := dict_stmt (so_0 w os) (so_all w os) (soL w os) (end_run w os)
theorem run_all (w : World) (os : OsState) : topRun treeTable pq w 11 annT (12 + (1 + (10 + (42 + (41 + (10 + (33 + (10 + (999 + (30 + (((1 + ((1 + (224 + ((224 + (5 + 6 * 17)) * 37 + (54 + (5 + 6 * 4))))) + 8)) + 0) + (31 + (30 + (10 + (27 + (27 + (32 + (27 + (27 + (27 + (35 + (38 + (27 + (34 + 2)))))))))))))))))))))))) (s0 w os) (topStub pq) = some (sE w os) := by
  refine go_top (pre_go w os) (piece_block (block_run w os) ?_)
  rw [body_eq]
  exact (rest_cons (pcR (pc0 w os)) (rest_cons (pcR (pc1 w os)) (rest_cons (pcR (pc2 w os)) (rest_cons (pcR (pc3 w os)) (rest_cons (pcR (pc4 w os)) (rest_cons (pcR (pc5 w os)) (rest_cons (pcR (pc6 w os)) (rest_cons (pcR (pc7 w os)) (rest_cons (pc8 w os) (rest_cons (pcR (pc9 w os)) (rest_cons (pcR (pc10 w os)) (rest_cons (pcR (pc11 w os)) (rest_cons (pcR (pc12 w os)) (rest_cons (pcR (pc13 w os)) (rest_cons (pcR (pc14 w os)) (rest_cons (pcR (pc15 w os)) (rest_cons (pcR (pc16 w os)) (rest_cons (pcR (pc17 w os)) (rest_cons (pcR (pc18 w os)) (rest_cons (pcR (pc19 w os)) (rest_cons (pcR (pc20 w os)) (rest_cons (pcR (pc21 w os)) (fin_run w os)))))))))))))))))))))))
end
section
open PySem PySem.W PySem.Calls PyProof.Rows
noncomputable def KpA (p : Program) : Params → Frag := fun P => [
  (2, ⟨.none, none, .dict [].toArray 0, [].toArray⟩),
  (3, ⟨.type "dict", none, .dict [⟨PyData.keyHash P (Str.ofString "__name__"), .str (Str.ofString "__name__") 165, .str (Str.ofString "law_tp0032_01") 2273⟩, ⟨PyData.keyHash P (Str.ofString "__doc__"), .str (Str.ofString "__doc__") 166, .none⟩, ⟨PyData.keyHash P (Str.ofString "__package__"), .str (Str.ofString "__package__") 167, .none⟩, ⟨PyData.keyHash P (Str.ofString "__loader__"), .str (Str.ofString "__loader__") 168, .builtin "__main__.__loader__#opaque"⟩, ⟨PyData.keyHash P (Str.ofString "__spec__"), .str (Str.ofString "__spec__") 169, .none⟩, ⟨PyData.keyHash P (Str.ofString "__annotations__"), .str (Str.ofString "__annotations__") 170, .ref 6⟩, ⟨PyData.keyHash P (Str.ofString "__builtins__"), .str (Str.ofString "__builtins__") 171, .ref 4⟩, ⟨PyData.keyHash P (Str.ofString "__file__"), .str (Str.ofString "__file__") 173, .str (Str.ofString "/claim/cut.py") 172⟩, ⟨PyData.keyHash P (Str.ofString "__cached__"), .str (Str.ofString "__cached__") 174, .none⟩, ⟨PyData.keyHash P (Str.ofString "rgb_to_hls"), .str (Str.ofString "rgb_to_hls") 207, .ref 21⟩, ⟨PyData.keyHash P (Str.ofString "rgb_to_hsv"), .str (Str.ofString "rgb_to_hsv") 225, .ref 28⟩, ⟨PyData.keyHash P (Str.ofString "_strip_padding"), .str (Str.ofString "_strip_padding") 237, .ref 35⟩, ⟨PyData.keyHash P (Str.ofString "b1_set"), .str (Str.ofString "b1_set") 299, .ref 43⟩, ⟨PyData.keyHash P (Str.ofString "in_table_b1"), .str (Str.ofString "in_table_b1") 306, .ref 53⟩, ⟨PyData.keyHash P (Str.ofString "b3_exceptions"), .str (Str.ofString "b3_exceptions") 2257, .ref 54⟩, ⟨PyData.keyHash P (Str.ofString "map_table_b3"), .str (Str.ofString "map_table_b3") 2265, .ref 99⟩, ⟨PyData.keyHash P (Str.ofString "in_table_c11"), .str (Str.ofString "in_table_c11") 2272, .ref 106⟩, ⟨PyData.keyHash P (Str.ofString "_law_draws"), .str (Str.ofString "_law_draws") 2280, .ref 111⟩, ⟨PyData.keyHash P (Str.ofString "_law_figures"), .str (Str.ofString "_law_figures") 2286, .ref 116⟩, ⟨PyData.keyHash P (Str.ofString "_law_piece"), .str (Str.ofString "_law_piece") 2295, .ref 123⟩, ⟨PyData.keyHash P (Str.ofString "_law_word"), .str (Str.ofString "_law_word") 2301, .ref 128⟩, ⟨PyData.keyHash P (Str.ofString "_law_kept"), .str (Str.ofString "_law_kept") 2307, .ref 133⟩, ⟨PyData.keyHash P (Str.ofString "_law_told"), .str (Str.ofString "_law_told") 2313, .ref 138⟩, ⟨PyData.keyHash P (Str.ofString "_law_sum"), .str (Str.ofString "_law_sum") 2325, .ref 145⟩, ⟨PyData.keyHash P (Str.ofString "_law_moves"), .str (Str.ofString "_law_moves") 2340, .ref 152⟩, ⟨PyData.keyHash P (Str.ofString "_law_holds"), .str (Str.ofString "_law_holds") 2346, .ref 157⟩, ⟨PyData.keyHash P (Str.ofString "law"), .str (Str.ofString "law") 2357, .ref 164⟩].toArray 27, [].toArray⟩),
  (6, ⟨.type "dict", none, .dict [].toArray 0, [].toArray⟩),
  (15, ⟨.type "tuple", none, .seq [].toArray 0, [].toArray⟩),
  (17, ⟨.type "tuple", none, .seq [.str (Str.ofString "r") 192, .str (Str.ofString "g") 193, .str (Str.ofString "b") 194, .str (Str.ofString "maxc") 195, .str (Str.ofString "minc") 196, .str (Str.ofString "sumc") 197, .str (Str.ofString "rangec") 198, .str (Str.ofString "l") 199, .str (Str.ofString "s") 200, .str (Str.ofString "rc") 201, .str (Str.ofString "gc") 202, .str (Str.ofString "bc") 203, .str (Str.ofString "h") 204].toArray 0, [].toArray⟩),
  (18, ⟨.type "tuple", none, .seq [].toArray 0, [].toArray⟩),
  (20, ⟨.type "code", none, .fields [.str (Str.ofString "rgb_to_hls") 189, .str (Str.ofString "rgb_to_hls") 190, .str (Str.ofString "/claim/cut.py") 191, .int 2 0, .int 3 0, .int 0 0, .int 0 0, .int 3 0, .ref 15, .bool true, .int 181 0, .ref 16, .none, .ref 17, .ref 18, .ref 19, .int 205 0, .int 2 0, .str (Str.ofString "/claim/cut.py") 206].toArray, [].toArray⟩),
  (21, ⟨.type "function", none, .func { name := (Str.ofString "rgb_to_hls"), qualname := (Str.ofString "rgb_to_hls"), params := fa (stmtAt p 1), body := .stmts (fb (stmtAt p 1)), scope := fs (stmtAt p 1), globals := 3, closure := [], defaults := .none, kwdefaults := .none, doc := .none, pyModule := .str (Str.ofString "cpy313.colorsys") 187, annotations := none, code := .ref 20, closureTuple := .none, builtins := 0 }, [].toArray⟩),
  (22, ⟨.type "tuple", none, .seq [].toArray 0, [].toArray⟩),
  (24, ⟨.type "tuple", none, .seq [.str (Str.ofString "r") 211, .str (Str.ofString "g") 212, .str (Str.ofString "b") 213, .str (Str.ofString "maxc") 214, .str (Str.ofString "minc") 215, .str (Str.ofString "rangec") 216, .str (Str.ofString "v") 217, .str (Str.ofString "s") 218, .str (Str.ofString "rc") 219, .str (Str.ofString "gc") 220, .str (Str.ofString "bc") 221, .str (Str.ofString "h") 222].toArray 0, [].toArray⟩),
  (25, ⟨.type "tuple", none, .seq [].toArray 0, [].toArray⟩),
  (27, ⟨.type "code", none, .fields [.str (Str.ofString "rgb_to_hsv") 208, .str (Str.ofString "rgb_to_hsv") 209, .str (Str.ofString "/claim/cut.py") 210, .int 25 0, .int 3 0, .int 0 0, .int 0 0, .int 3 0, .ref 22, .bool true, .int 181 0, .ref 23, .none, .ref 24, .ref 25, .ref 26, .int 223 0, .int 25 0, .str (Str.ofString "/claim/cut.py") 224].toArray, [].toArray⟩),
  (28, ⟨.type "function", none, .func { name := (Str.ofString "rgb_to_hsv"), qualname := (Str.ofString "rgb_to_hsv"), params := fa (stmtAt p 2), body := .stmts (fb (stmtAt p 2)), scope := fs (stmtAt p 2), globals := 3, closure := [], defaults := .none, kwdefaults := .none, doc := .none, pyModule := .str (Str.ofString "cpy313.colorsys") 187, annotations := none, code := .ref 27, closureTuple := .none, builtins := 0 }, [].toArray⟩)]
noncomputable def KpB (p : Program) : Params → Frag := fun P => [
  (29, ⟨.type "tuple", none, .seq [].toArray 0, [].toArray⟩),
  (31, ⟨.type "tuple", none, .seq [.str (Str.ofString "s") 231, .str (Str.ofString "amount") 232, .str (Str.ofString "lpos") 233, .str (Str.ofString "rpos") 234].toArray 0, [].toArray⟩),
  (32, ⟨.type "tuple", none, .seq [].toArray 0, [].toArray⟩),
  (34, ⟨.type "code", none, .fields [.str (Str.ofString "_strip_padding") 228, .str (Str.ofString "_strip_padding") 229, .str (Str.ofString "/claim/cut.py") 230, .int 45 0, .int 2 0, .int 0 0, .int 0 0, .int 3 0, .ref 29, .bool true, .int 181 0, .ref 30, .none, .ref 31, .ref 32, .ref 33, .int 235 0, .int 45 0, .str (Str.ofString "/claim/cut.py") 236].toArray, [].toArray⟩),
  (35, ⟨.type "function", none, .func { name := (Str.ofString "_strip_padding"), qualname := (Str.ofString "_strip_padding"), params := fa (stmtAt p 4), body := .stmts (fb (stmtAt p 4)), scope := fs (stmtAt p 4), globals := 3, closure := [], defaults := .none, kwdefaults := .none, doc := .none, pyModule := .str (Str.ofString "cpy313.locale") 226, annotations := none, code := .ref 34, closureTuple := .none, builtins := 0 }, [].toArray⟩),
  (43, ⟨.type "set", none, .set [(65024, .int 65024 256), (65025, .int 65025 257), (65026, .int 65026 258), (65027, .int 65027 259), (65028, .int 65028 260), (65029, .int 65029 261), (6150, .int 6150 242), (65030, .int 65030 262), (65031, .int 65031 263), (65032, .int 65032 264), (65033, .int 65033 265), (6155, .int 6155 243), (6156, .int 6156 244), (6157, .int 6157 245), (8203, .int 8203 246), (8204, .int 8204 247), (8205, .int 8205 248), (65034, .int 65034 266), (65035, .int 65035 267), (65036, .int 65036 268), (65037, .int 65037 269), (65038, .int 65038 270), (65039, .int 65039 271), (173, .int 173 240), (847, .int 847 241), (8288, .int 8288 249), (65279, .int 65279 250)].toArray 29 ⟨127, [0,1,2,3,4,5,6,7,8,9,10,11,12,13,14,15,16,17,18,19,20,21,22,45,79,96,127].toArray, [].toArray, 0, !(P.followText "set-order"), 2, true⟩, [].toArray⟩),
  (47, ⟨.type "tuple", none, .seq [].toArray 0, [].toArray⟩),
  (49, ⟨.type "tuple", none, .seq [.str (Str.ofString "code") 303].toArray 0, [].toArray⟩),
  (50, ⟨.type "tuple", none, .seq [].toArray 0, [].toArray⟩),
  (52, ⟨.type "code", none, .fields [.str (Str.ofString "in_table_b1") 300, .str (Str.ofString "in_table_b1") 301, .str (Str.ofString "/claim/cut.py") 302, .int 57 0, .int 1 0, .int 0 0, .int 0 0, .int 3 0, .ref 47, .bool true, .int 181 0, .ref 48, .none, .ref 49, .ref 50, .ref 51, .int 304 0, .int 57 0, .str (Str.ofString "/claim/cut.py") 305].toArray, [].toArray⟩),
  (53, ⟨.type "function", none, .func { name := (Str.ofString "in_table_b1"), qualname := (Str.ofString "in_table_b1"), params := fa (stmtAt p 7), body := .stmts (fb (stmtAt p 7)), scope := fs (stmtAt p 7), globals := 3, closure := [], defaults := .none, kwdefaults := .none, doc := .none, pyModule := .str (Str.ofString "cpy313.stringprep") 238, annotations := none, code := .ref 52, closureTuple := .none, builtins := 0 }, [].toArray⟩),
  (54, ⟨.type "dict", none, .dict (Array.mk (dE p)) 650, [].toArray⟩),
  (93, ⟨.type "tuple", none, .seq [].toArray 0, [].toArray⟩),
  (95, ⟨.type "tuple", none, .seq [.str (Str.ofString "code") 2261, .str (Str.ofString "r") 2262].toArray 0, [].toArray⟩),
  (96, ⟨.type "tuple", none, .seq [].toArray 0, [].toArray⟩),
  (98, ⟨.type "code", none, .fields [.str (Str.ofString "map_table_b3") 2258, .str (Str.ofString "map_table_b3") 2259, .str (Str.ofString "/claim/cut.py") 2260, .int 60 0, .int 1 0, .int 0 0, .int 0 0, .int 3 0, .ref 93, .bool true, .int 181 0, .ref 94, .none, .ref 95, .ref 96, .ref 97, .int 2263 0, .int 60 0, .str (Str.ofString "/claim/cut.py") 2264].toArray, [].toArray⟩),
  (99, ⟨.type "function", none, .func { name := (Str.ofString "map_table_b3"), qualname := (Str.ofString "map_table_b3"), params := fa (stmtAt p 9), body := .stmts (fb (stmtAt p 9)), scope := fs (stmtAt p 9), globals := 3, closure := [], defaults := .none, kwdefaults := .none, doc := .none, pyModule := .str (Str.ofString "cpy313.stringprep") 238, annotations := none, code := .ref 98, closureTuple := .none, builtins := 0 }, [].toArray⟩),
  (100, ⟨.type "tuple", none, .seq [].toArray 0, [].toArray⟩),
  (102, ⟨.type "tuple", none, .seq [.str (Str.ofString "code") 2269].toArray 0, [].toArray⟩),
  (103, ⟨.type "tuple", none, .seq [].toArray 0, [].toArray⟩),
  (105, ⟨.type "code", none, .fields [.str (Str.ofString "in_table_c11") 2266, .str (Str.ofString "in_table_c11") 2267, .str (Str.ofString "/claim/cut.py") 2268, .int 65 0, .int 1 0, .int 0 0, .int 0 0, .int 3 0, .ref 100, .bool true, .int 181 0, .ref 101, .none, .ref 102, .ref 103, .ref 104, .int 2270 0, .int 65 0, .str (Str.ofString "/claim/cut.py") 2271].toArray, [].toArray⟩),
  (106, ⟨.type "function", none, .func { name := (Str.ofString "in_table_c11"), qualname := (Str.ofString "in_table_c11"), params := fa (stmtAt p 10), body := .stmts (fb (stmtAt p 10)), scope := fs (stmtAt p 10), globals := 3, closure := [], defaults := .none, kwdefaults := .none, doc := .none, pyModule := .str (Str.ofString "cpy313.stringprep") 238, annotations := none, code := .ref 105, closureTuple := .none, builtins := 0 }, [].toArray⟩)]
noncomputable def KpC (p : Program) : Params → Frag := fun P => [
  (107, ⟨.type "tuple", none, .seq [].toArray 0, [].toArray⟩),
  (110, ⟨.type "code", none, .fields [.str (Str.ofString "_law_draws") 2275, .str (Str.ofString "_law_draws") 2276, .str (Str.ofString "/claim/cut.py") 2277, .int 68 0, .int 2 0, .int 0 0, .int 0 0, .int 3 0, .ref 107, .bool true, .int 181 0, .ref 108, .none, .none, .none, .ref 109, .int 2278 0, .int 68 0, .str (Str.ofString "/claim/cut.py") 2279].toArray, [].toArray⟩),
  (111, ⟨.type "function", none, .func { name := (Str.ofString "_law_draws"), qualname := (Str.ofString "_law_draws"), params := fa (stmtAt p 12), body := .stmts (fb (stmtAt p 12)), scope := fs (stmtAt p 12), globals := 3, closure := [], defaults := .none, kwdefaults := .none, doc := .none, pyModule := .str (Str.ofString "law_tp0032_01") 2273, annotations := none, code := .ref 110, closureTuple := .none, builtins := 0 }, [].toArray⟩),
  (112, ⟨.type "tuple", none, .seq [].toArray 0, [].toArray⟩),
  (115, ⟨.type "code", none, .fields [.str (Str.ofString "_law_figures") 2281, .str (Str.ofString "_law_figures") 2282, .str (Str.ofString "/claim/cut.py") 2283, .int 70 0, .int 1 0, .int 0 0, .int 0 0, .int 3 0, .ref 112, .bool true, .int 181 0, .ref 113, .none, .none, .none, .ref 114, .int 2284 0, .int 70 0, .str (Str.ofString "/claim/cut.py") 2285].toArray, [].toArray⟩),
  (116, ⟨.type "function", none, .func { name := (Str.ofString "_law_figures"), qualname := (Str.ofString "_law_figures"), params := fa (stmtAt p 13), body := .stmts (fb (stmtAt p 13)), scope := fs (stmtAt p 13), globals := 3, closure := [], defaults := .none, kwdefaults := .none, doc := .none, pyModule := .str (Str.ofString "law_tp0032_01") 2273, annotations := none, code := .ref 115, closureTuple := .none, builtins := 0 }, [].toArray⟩),
  (117, ⟨.type "tuple", none, .seq [].toArray 0, [].toArray⟩),
  (119, ⟨.type "tuple", none, .seq [.str (Str.ofString "figure") 2290, .str (Str.ofString "letter") 2291, .str (Str.ofString "way") 2292].toArray 0, [].toArray⟩),
  (120, ⟨.type "tuple", none, .seq [].toArray 0, [].toArray⟩),
  (122, ⟨.type "code", none, .fields [.str (Str.ofString "_law_piece") 2287, .str (Str.ofString "_law_piece") 2288, .str (Str.ofString "/claim/cut.py") 2289, .int 72 0, .int 1 0, .int 0 0, .int 0 0, .int 3 0, .ref 117, .bool true, .int 181 0, .ref 118, .none, .ref 119, .ref 120, .ref 121, .int 2293 0, .int 72 0, .str (Str.ofString "/claim/cut.py") 2294].toArray, [].toArray⟩),
  (123, ⟨.type "function", none, .func { name := (Str.ofString "_law_piece"), qualname := (Str.ofString "_law_piece"), params := fa (stmtAt p 14), body := .stmts (fb (stmtAt p 14)), scope := fs (stmtAt p 14), globals := 3, closure := [], defaults := .none, kwdefaults := .none, doc := .none, pyModule := .str (Str.ofString "law_tp0032_01") 2273, annotations := none, code := .ref 122, closureTuple := .none, builtins := 0 }, [].toArray⟩),
  (124, ⟨.type "tuple", none, .seq [].toArray 0, [].toArray⟩),
  (127, ⟨.type "code", none, .fields [.str (Str.ofString "_law_word") 2296, .str (Str.ofString "_law_word") 2297, .str (Str.ofString "/claim/cut.py") 2298, .int 84 0, .int 1 0, .int 0 0, .int 0 0, .int 3 0, .ref 124, .bool true, .int 181 0, .ref 125, .none, .none, .none, .ref 126, .int 2299 0, .int 84 0, .str (Str.ofString "/claim/cut.py") 2300].toArray, [].toArray⟩),
  (128, ⟨.type "function", none, .func { name := (Str.ofString "_law_word"), qualname := (Str.ofString "_law_word"), params := fa (stmtAt p 15), body := .stmts (fb (stmtAt p 15)), scope := fs (stmtAt p 15), globals := 3, closure := [], defaults := .none, kwdefaults := .none, doc := .none, pyModule := .str (Str.ofString "law_tp0032_01") 2273, annotations := none, code := .ref 127, closureTuple := .none, builtins := 0 }, [].toArray⟩),
  (129, ⟨.type "tuple", none, .seq [].toArray 0, [].toArray⟩),
  (132, ⟨.type "code", none, .fields [.str (Str.ofString "_law_kept") 2302, .str (Str.ofString "_law_kept") 2303, .str (Str.ofString "/claim/cut.py") 2304, .int 87 0, .int 1 0, .int 0 0, .int 0 0, .int 3 0, .ref 129, .bool true, .int 181 0, .ref 130, .none, .none, .none, .ref 131, .int 2305 0, .int 87 0, .str (Str.ofString "/claim/cut.py") 2306].toArray, [].toArray⟩),
  (133, ⟨.type "function", none, .func { name := (Str.ofString "_law_kept"), qualname := (Str.ofString "_law_kept"), params := fa (stmtAt p 16), body := .stmts (fb (stmtAt p 16)), scope := fs (stmtAt p 16), globals := 3, closure := [], defaults := .none, kwdefaults := .none, doc := .none, pyModule := .str (Str.ofString "law_tp0032_01") 2273, annotations := none, code := .ref 132, closureTuple := .none, builtins := 0 }, [].toArray⟩),
  (134, ⟨.type "tuple", none, .seq [].toArray 0, [].toArray⟩),
  (137, ⟨.type "code", none, .fields [.str (Str.ofString "_law_told") 2308, .str (Str.ofString "_law_told") 2309, .str (Str.ofString "/claim/cut.py") 2310, .int 90 0, .int 1 0, .int 0 0, .int 0 0, .int 3 0, .ref 134, .bool true, .int 181 0, .ref 135, .none, .none, .none, .ref 136, .int 2311 0, .int 90 0, .str (Str.ofString "/claim/cut.py") 2312].toArray, [].toArray⟩)]
noncomputable def KpD (p : Program) : Params → Frag := fun P => [
  (138, ⟨.type "function", none, .func { name := (Str.ofString "_law_told"), qualname := (Str.ofString "_law_told"), params := fa (stmtAt p 17), body := .stmts (fb (stmtAt p 17)), scope := fs (stmtAt p 17), globals := 3, closure := [], defaults := .none, kwdefaults := .none, doc := .none, pyModule := .str (Str.ofString "law_tp0032_01") 2273, annotations := none, code := .ref 137, closureTuple := .none, builtins := 0 }, [].toArray⟩),
  (139, ⟨.type "tuple", none, .seq [].toArray 0, [].toArray⟩),
  (141, ⟨.type "tuple", none, .seq [.str (Str.ofString "row") 2317, .str (Str.ofString "spot") 2318, .str (Str.ofString "total") 2319, .str (Str.ofString "i") 2320, .str (Str.ofString "j") 2321, .str (Str.ofString "k") 2322].toArray 0, [].toArray⟩),
  (142, ⟨.type "tuple", none, .seq [].toArray 0, [].toArray⟩),
  (144, ⟨.type "code", none, .fields [.str (Str.ofString "_law_sum") 2314, .str (Str.ofString "_law_sum") 2315, .str (Str.ofString "/claim/cut.py") 2316, .int 98 0, .int 2 0, .int 0 0, .int 0 0, .int 3 0, .ref 139, .bool true, .int 181 0, .ref 140, .none, .ref 141, .ref 142, .ref 143, .int 2323 0, .int 98 0, .str (Str.ofString "/claim/cut.py") 2324].toArray, [].toArray⟩),
  (145, ⟨.type "function", none, .func { name := (Str.ofString "_law_sum"), qualname := (Str.ofString "_law_sum"), params := fa (stmtAt p 18), body := .stmts (fb (stmtAt p 18)), scope := fs (stmtAt p 18), globals := 3, closure := [], defaults := .none, kwdefaults := .none, doc := .none, pyModule := .str (Str.ofString "law_tp0032_01") 2273, annotations := none, code := .ref 144, closureTuple := .none, builtins := 0 }, [].toArray⟩),
  (146, ⟨.type "tuple", none, .seq [].toArray 0, [].toArray⟩),
  (148, ⟨.type "tuple", none, .seq [.str (Str.ofString "start") 2329, .str (Str.ofString "goal") 2330, .str (Str.ofString "layer") 2331, .str (Str.ofString "moves") 2332, .str (Str.ofString "further") 2333, .str (Str.ofString "row") 2334, .str (Str.ofString "i") 2335, .str (Str.ofString "j") 2336, .str (Str.ofString "moved") 2337].toArray 0, [].toArray⟩),
  (149, ⟨.type "tuple", none, .seq [].toArray 0, [].toArray⟩),
  (151, ⟨.type "code", none, .fields [.str (Str.ofString "_law_moves") 2326, .str (Str.ofString "_law_moves") 2327, .str (Str.ofString "/claim/cut.py") 2328, .int 103 0, .int 2 0, .int 0 0, .int 0 0, .int 3 0, .ref 146, .bool true, .int 181 0, .ref 147, .none, .ref 148, .ref 149, .ref 150, .int 2338 0, .int 103 0, .str (Str.ofString "/claim/cut.py") 2339].toArray, [].toArray⟩),
  (152, ⟨.type "function", none, .func { name := (Str.ofString "_law_moves"), qualname := (Str.ofString "_law_moves"), params := fa (stmtAt p 19), body := .stmts (fb (stmtAt p 19)), scope := fs (stmtAt p 19), globals := 3, closure := [], defaults := .none, kwdefaults := .none, doc := .none, pyModule := .str (Str.ofString "law_tp0032_01") 2273, annotations := none, code := .ref 151, closureTuple := .none, builtins := 0 }, [].toArray⟩),
  (153, ⟨.type "tuple", none, .seq [].toArray 0, [].toArray⟩),
  (156, ⟨.type "code", none, .fields [.str (Str.ofString "_law_holds") 2341, .str (Str.ofString "_law_holds") 2342, .str (Str.ofString "/claim/cut.py") 2343, .int 122 0, .int 3 0, .int 0 0, .int 0 0, .int 3 0, .ref 153, .bool true, .int 181 0, .ref 154, .none, .none, .none, .ref 155, .int 2344 0, .int 122 0, .str (Str.ofString "/claim/cut.py") 2345].toArray, [].toArray⟩),
  (157, ⟨.type "function", none, .func { name := (Str.ofString "_law_holds"), qualname := (Str.ofString "_law_holds"), params := fa (stmtAt p 20), body := .stmts (fb (stmtAt p 20)), scope := fs (stmtAt p 20), globals := 3, closure := [], defaults := .none, kwdefaults := .none, doc := .none, pyModule := .str (Str.ofString "law_tp0032_01") 2273, annotations := none, code := .ref 156, closureTuple := .none, builtins := 0 }, [].toArray⟩),
  (158, ⟨.type "tuple", none, .seq [].toArray 0, [].toArray⟩),
  (160, ⟨.type "tuple", none, .seq [.str (Str.ofString "script") 2350, .str (Str.ofString "draws") 2351, .str (Str.ofString "first") 2352, .str (Str.ofString "second") 2353, .str (Str.ofString "spot") 2354].toArray 0, [].toArray⟩),
  (161, ⟨.type "tuple", none, .seq [].toArray 0, [].toArray⟩),
  (163, ⟨.type "code", none, .fields [.str (Str.ofString "law") 2347, .str (Str.ofString "law") 2348, .str (Str.ofString "/claim/cut.py") 2349, .int 134 0, .int 1 0, .int 0 0, .int 0 0, .int 3 0, .ref 158, .bool true, .int 181 0, .ref 159, .none, .ref 160, .ref 161, .ref 162, .int 2355 0, .int 134 0, .str (Str.ofString "/claim/cut.py") 2356].toArray, [].toArray⟩),
  (164, ⟨.type "function", none, .func { name := (Str.ofString "law"), qualname := (Str.ofString "law"), params := fa (stmtAt p 21), body := .stmts (fb (stmtAt p 21)), scope := fs (stmtAt p 21), globals := 3, closure := [], defaults := .none, kwdefaults := .none, doc := .none, pyModule := .str (Str.ofString "law_tp0032_01") 2273, annotations := none, code := .ref 163, closureTuple := .none, builtins := 0 }, [].toArray⟩)]
noncomputable def Kp (p : Program) : Params → Frag := fun P => KpA p P ++ (KpB p P ++ (KpC p P ++ KpD p P))
noncomputable abbrev asK : List Addr := [2, 3, 6, 15, 17, 18, 20, 21, 22, 24, 25, 27, 28, 29, 31, 32, 34, 35, 43, 47, 49, 50, 52, 53, 54, 93, 95, 96, 98, 99, 100, 102, 103, 105, 106, 107, 110, 111, 112, 115, 116, 117, 119, 120, 122, 123, 124, 127, 128, 129, 132, 133, 134, 137, 138, 139, 141, 142, 144, 145, 146, 148, 149, 151, 152, 153, 156, 157, 158, 160, 161, 163, 164]
noncomputable def vw (p : Program) : Program := { p with main := { p.main with body := [stmtAt p 1, stmtAt p 2, stmtAt p 4, stmtAt p 7, stmtAt p 9, stmtAt p 10, stmtAt p 12, stmtAt p 13, stmtAt p 14, stmtAt p 15, stmtAt p 16, stmtAt p 17, stmtAt p 18, stmtAt p 19, stmtAt p 20, stmtAt p 21] } }
noncomputable abbrev looseL : List Str := [Str.ofString "b1_set", Str.ofString "b3_exceptions"]
noncomputable abbrev looseQ : List Str := [mkS [98, 49, 95, 115, 101, 116], mkS [98,51,95,101,120,99,101,112,116,105,111,110,115]]
theorem loose_eq : looseL = looseQ := by
  have a : Str.ofString "b1_set" = mkS [98, 49, 95, 115, 101, 116] := PySem.W.Fast.ofString_ofList ['b', '1', '_', 's', 'e', 't']
  have b : Str.ofString "b3_exceptions" = mkS [98,51,95,101,120,99,101,112,116,105,111,110,115] := PySem.W.Fast.ofString_ofList ['b', '3', '_', 'e', 'x', 'c', 'e', 'p', 't', 'i', 'o', 'n', 's']
  unfold looseL
  rw [a, b]
noncomputable abbrev XtP (p : Program) : Shared → Bool := fun s => xlAt (vw p) [] s && recOk [] s
noncomputable abbrev hookP (p : Program) : Hook := kHook (Kp p) asK (fun _ => rfl)
noncomputable abbrev NTop : Nat := 40000
theorem opens (w : World) : (fencedOpening treeTable pq w NTop).map (fun s => (s.heap, s.gens, s.drawn, s.toks)) = some (boot_heap w.params, Array.mk [], boot_drawn, boot_toks) :=
  boot_open (p := pq) (N := NTop) (by kernel_rfl) (by kernel_rfl) (fun s => by kernel_rfl) w
theorem sizes (w : World) : ((boot_heap w.params).isNs mainGlobals && (Array.mk ([] : List GenState)).size == 0, (boot_heap w.params).objs.size, (boot_heap w.params).nsMap mainGlobals (Str.ofString "__annotations__")) = (true, 11, annT) := by
  rw [show Str.ofString "__annotations__" = mkS [95, 95, 97, 110, 110, 111, 116, 97, 116, 105, 111, 110, 115, 95, 95] from PySem.W.Fast.ofString_ofList ['_', '_', 'a', 'n', 'n', 'o', 't', 'a', 't', 'i', 'o', 'n', 's', '_', '_']]
  kernel_rfl
noncomputable def laidK (_ : List (Program → Params → Frag)) : Bool := true
theorem lay_k : laidK [KpA, KpB, KpC, KpD] = true := by k_qdec
noncomputable abbrev KQ : Params → Frag := fun P => PySem.W.Fast.tw3904711091483300550 pq P ++ (PySem.W.Fast.tw12911332373551233587 pq P ++ (PySem.W.Fast.tw17424921330805788782 pq P ++ (PySem.W.Fast.tw13032032881681130555 pq P)))
theorem KQ_eq : Kp pq = KQ := by
  unfold Kp
  rw [PySem.W.Fast.te3904711091483300550, PySem.W.Fast.te12911332373551233587, PySem.W.Fast.te17424921330805788782, PySem.W.Fast.te13032032881681130555]
theorem look1 (w : World) (os : OsState) : (staticsOk (importedModules pq.main.body) (boot_heap w.params) (hEnd pq w.params) && namesBound pq (hEnd pq w.params) && gensDone (sE w os) && laidKept (boot_heap w.params) (hEnd pq w.params)) = true := by
  rw [PySem.W.Fast.te5923862056798008813]
  kernel_rfl
theorem look3 (w : World) (os : OsState) : asK.map (sE w os).heap.get? = (Kp pq w.params).map fun p => some p.2 := by
  rw [KQ_eq]
  kernel_rfl
theorem look2 (w : World) (os : OsState) : openSeen (vw pq) looseQ (importedModules pq.main.body) (XtP pq) true (sE w os) = openGood (vw pq) looseQ := by
  rw [PySem.W.Fast.te4187177175401517315, PySem.W.Fast.te5923862056798008813]
  kernel_rfl
theorem left_q : LeftO pq (vw pq) looseQ (XtP pq) (hookP pq).obs (hookP pq).val NTop :=
  LeftO.of_pieces (H₀ := boot_heap) (H₁ := hEnd pq) opens sizes run_all (by rfl) fun w => funext fun os =>
    Prod.ext (look1 w os) (Prod.ext (look2 w os) (look3 w os))
theorem left_p : LeftO pw (vw pw) looseL (XtP pw) (hookP pw).obs (hookP pw).val NTop := by
  rw [loose_eq]
  have h : ∀ p : Program, p = pq → LeftO p (vw p) looseQ (XtP p) (hookP p).obs (hookP p).val NTop := fun p e => e ▸ left_q
  exact h pw pw_pq

end
section
open PySem PySem.W PySem.Calls PyProof.Rows
noncomputable abbrev whA {a : Arguments} {s : Stmt} (_ : fa s = a) : Arguments := a
noncomputable abbrev whB {a : List Stmt} {s : Stmt} (_ : fb s = a) : List Stmt := a
noncomputable abbrev whC {a : Scope} {s : Stmt} (_ : fs s = a) : Scope := a
noncomputable abbrev A1 := whA (s := stmtAt pw 1) (by conv => lhs; whnf)
noncomputable abbrev B1 := whB (s := stmtAt pw 1) (by conv => lhs; whnf)
noncomputable abbrev C1 := whC (s := stmtAt pw 1) (by conv => lhs; whnf)
noncomputable abbrev A2 := whA (s := stmtAt pw 2) (by conv => lhs; whnf)
noncomputable abbrev B2 := whB (s := stmtAt pw 2) (by conv => lhs; whnf)
noncomputable abbrev C2 := whC (s := stmtAt pw 2) (by conv => lhs; whnf)
noncomputable abbrev A4 := whA (s := stmtAt pw 4) (by conv => lhs; whnf)
noncomputable abbrev B4 := whB (s := stmtAt pw 4) (by conv => lhs; whnf)
noncomputable abbrev C4 := whC (s := stmtAt pw 4) (by conv => lhs; whnf)
noncomputable abbrev A7 := whA (s := stmtAt pw 7) (by conv => lhs; whnf)
noncomputable abbrev B7 := whB (s := stmtAt pw 7) (by conv => lhs; whnf)
noncomputable abbrev C7 := whC (s := stmtAt pw 7) (by conv => lhs; whnf)
noncomputable abbrev A9 := whA (s := stmtAt pw 9) (by conv => lhs; whnf)
noncomputable abbrev B9 := whB (s := stmtAt pw 9) (by conv => lhs; whnf)
noncomputable abbrev C9 := whC (s := stmtAt pw 9) (by conv => lhs; whnf)
noncomputable abbrev A10 := whA (s := stmtAt pw 10) (by conv => lhs; whnf)
noncomputable abbrev B10 := whB (s := stmtAt pw 10) (by conv => lhs; whnf)
noncomputable abbrev C10 := whC (s := stmtAt pw 10) (by conv => lhs; whnf)
noncomputable abbrev A12 := whA (s := stmtAt pw 12) (by conv => lhs; whnf)
noncomputable abbrev B12 := whB (s := stmtAt pw 12) (by conv => lhs; whnf)
noncomputable abbrev C12 := whC (s := stmtAt pw 12) (by conv => lhs; whnf)
noncomputable abbrev A13 := whA (s := stmtAt pw 13) (by conv => lhs; whnf)
noncomputable abbrev B13 := whB (s := stmtAt pw 13) (by conv => lhs; whnf)
noncomputable abbrev C13 := whC (s := stmtAt pw 13) (by conv => lhs; whnf)
noncomputable abbrev A14 := whA (s := stmtAt pw 14) (by conv => lhs; whnf)
noncomputable abbrev B14 := whB (s := stmtAt pw 14) (by conv => lhs; whnf)
noncomputable abbrev C14 := whC (s := stmtAt pw 14) (by conv => lhs; whnf)
noncomputable abbrev A15 := whA (s := stmtAt pw 15) (by conv => lhs; whnf)
noncomputable abbrev B15 := whB (s := stmtAt pw 15) (by conv => lhs; whnf)
noncomputable abbrev C15 := whC (s := stmtAt pw 15) (by conv => lhs; whnf)
noncomputable abbrev A16 := whA (s := stmtAt pw 16) (by conv => lhs; whnf)
noncomputable abbrev B16 := whB (s := stmtAt pw 16) (by conv => lhs; whnf)
noncomputable abbrev C16 := whC (s := stmtAt pw 16) (by conv => lhs; whnf)
noncomputable abbrev A17 := whA (s := stmtAt pw 17) (by conv => lhs; whnf)
noncomputable abbrev B17 := whB (s := stmtAt pw 17) (by conv => lhs; whnf)
noncomputable abbrev C17 := whC (s := stmtAt pw 17) (by conv => lhs; whnf)
noncomputable abbrev A18 := whA (s := stmtAt pw 18) (by conv => lhs; whnf)
noncomputable abbrev B18 := whB (s := stmtAt pw 18) (by conv => lhs; whnf)
noncomputable abbrev C18 := whC (s := stmtAt pw 18) (by conv => lhs; whnf)
noncomputable abbrev A19 := whA (s := stmtAt pw 19) (by conv => lhs; whnf)
noncomputable abbrev B19 := whB (s := stmtAt pw 19) (by conv => lhs; whnf)
noncomputable abbrev C19 := whC (s := stmtAt pw 19) (by conv => lhs; whnf)
noncomputable abbrev A20 := whA (s := stmtAt pw 20) (by conv => lhs; whnf)
noncomputable abbrev B20 := whB (s := stmtAt pw 20) (by conv => lhs; whnf)
noncomputable abbrev C20 := whC (s := stmtAt pw 20) (by conv => lhs; whnf)
noncomputable abbrev A21 := whA (s := stmtAt pw 21) (by conv => lhs; whnf)
noncomputable abbrev B21 := whB (s := stmtAt pw 21) (by conv => lhs; whnf)
noncomputable abbrev C21 := whC (s := stmtAt pw 21) (by conv => lhs; whnf)
noncomputable def KW : Params → Frag := fun P =>
  (nat_lit 2, ⟨.none, none, .dict [].toArray 0, [].toArray⟩) ::
  (nat_lit 3, ⟨.type "dict", none, .dict [⟨PyData.keyHash P (Str.ofString "__name__"), .str (Str.ofString "__name__") 165, .str (Str.ofString "law_tp0032_01") 2273⟩, ⟨PyData.keyHash P (Str.ofString "__doc__"), .str (Str.ofString "__doc__") 166, .none⟩, ⟨PyData.keyHash P (Str.ofString "__package__"), .str (Str.ofString "__package__") 167, .none⟩, ⟨PyData.keyHash P (Str.ofString "__loader__"), .str (Str.ofString "__loader__") 168, .builtin "__main__.__loader__#opaque"⟩, ⟨PyData.keyHash P (Str.ofString "__spec__"), .str (Str.ofString "__spec__") 169, .none⟩, ⟨PyData.keyHash P (Str.ofString "__annotations__"), .str (Str.ofString "__annotations__") 170, .ref 6⟩, ⟨PyData.keyHash P (Str.ofString "__builtins__"), .str (Str.ofString "__builtins__") 171, .ref 4⟩, ⟨PyData.keyHash P (Str.ofString "__file__"), .str (Str.ofString "__file__") 173, .str (Str.ofString "/claim/cut.py") 172⟩, ⟨PyData.keyHash P (Str.ofString "__cached__"), .str (Str.ofString "__cached__") 174, .none⟩, ⟨PyData.keyHash P (Str.ofString "rgb_to_hls"), .str (Str.ofString "rgb_to_hls") 207, .ref 21⟩, ⟨PyData.keyHash P (Str.ofString "rgb_to_hsv"), .str (Str.ofString "rgb_to_hsv") 225, .ref 28⟩, ⟨PyData.keyHash P (Str.ofString "_strip_padding"), .str (Str.ofString "_strip_padding") 237, .ref 35⟩, ⟨PyData.keyHash P (Str.ofString "b1_set"), .str (Str.ofString "b1_set") 299, .ref 43⟩, ⟨PyData.keyHash P (Str.ofString "in_table_b1"), .str (Str.ofString "in_table_b1") 306, .ref 53⟩, ⟨PyData.keyHash P (Str.ofString "b3_exceptions"), .str (Str.ofString "b3_exceptions") 2257, .ref 54⟩, ⟨PyData.keyHash P (Str.ofString "map_table_b3"), .str (Str.ofString "map_table_b3") 2265, .ref 99⟩, ⟨PyData.keyHash P (Str.ofString "in_table_c11"), .str (Str.ofString "in_table_c11") 2272, .ref 106⟩, ⟨PyData.keyHash P (Str.ofString "_law_draws"), .str (Str.ofString "_law_draws") 2280, .ref 111⟩, ⟨PyData.keyHash P (Str.ofString "_law_figures"), .str (Str.ofString "_law_figures") 2286, .ref 116⟩, ⟨PyData.keyHash P (Str.ofString "_law_piece"), .str (Str.ofString "_law_piece") 2295, .ref 123⟩, ⟨PyData.keyHash P (Str.ofString "_law_word"), .str (Str.ofString "_law_word") 2301, .ref 128⟩, ⟨PyData.keyHash P (Str.ofString "_law_kept"), .str (Str.ofString "_law_kept") 2307, .ref 133⟩, ⟨PyData.keyHash P (Str.ofString "_law_told"), .str (Str.ofString "_law_told") 2313, .ref 138⟩, ⟨PyData.keyHash P (Str.ofString "_law_sum"), .str (Str.ofString "_law_sum") 2325, .ref 145⟩, ⟨PyData.keyHash P (Str.ofString "_law_moves"), .str (Str.ofString "_law_moves") 2340, .ref 152⟩, ⟨PyData.keyHash P (Str.ofString "_law_holds"), .str (Str.ofString "_law_holds") 2346, .ref 157⟩, ⟨PyData.keyHash P (Str.ofString "law"), .str (Str.ofString "law") 2357, .ref 164⟩].toArray 27, [].toArray⟩) ::
  (nat_lit 6, ⟨.type "dict", none, .dict [].toArray 0, [].toArray⟩) ::
  (nat_lit 15, ⟨.type "tuple", none, .seq [].toArray 0, [].toArray⟩) ::
  (nat_lit 17, ⟨.type "tuple", none, .seq [.str (Str.ofString "r") 192, .str (Str.ofString "g") 193, .str (Str.ofString "b") 194, .str (Str.ofString "maxc") 195, .str (Str.ofString "minc") 196, .str (Str.ofString "sumc") 197, .str (Str.ofString "rangec") 198, .str (Str.ofString "l") 199, .str (Str.ofString "s") 200, .str (Str.ofString "rc") 201, .str (Str.ofString "gc") 202, .str (Str.ofString "bc") 203, .str (Str.ofString "h") 204].toArray 0, [].toArray⟩) ::
  (nat_lit 18, ⟨.type "tuple", none, .seq [].toArray 0, [].toArray⟩) ::
  (nat_lit 20, ⟨.type "code", none, .fields [.str (Str.ofString "rgb_to_hls") 189, .str (Str.ofString "rgb_to_hls") 190, .str (Str.ofString "/claim/cut.py") 191, .int 2 0, .int 3 0, .int 0 0, .int 0 0, .int 3 0, .ref 15, .bool true, .int 181 0, .ref 16, .none, .ref 17, .ref 18, .ref 19, .int 205 0, .int 2 0, .str (Str.ofString "/claim/cut.py") 206].toArray, [].toArray⟩) ::
  (nat_lit 21, ⟨.type "function", none, .func { name := (Str.ofString "rgb_to_hls"), qualname := (Str.ofString "rgb_to_hls"), params := A1, body := .stmts (B1), scope := C1, globals := 3, closure := [], defaults := .none, kwdefaults := .none, doc := .none, pyModule := .str (Str.ofString "cpy313.colorsys") 187, annotations := none, code := .ref 20, closureTuple := .none, builtins := 0 }, [].toArray⟩) ::
  (nat_lit 22, ⟨.type "tuple", none, .seq [].toArray 0, [].toArray⟩) ::
  (nat_lit 24, ⟨.type "tuple", none, .seq [.str (Str.ofString "r") 211, .str (Str.ofString "g") 212, .str (Str.ofString "b") 213, .str (Str.ofString "maxc") 214, .str (Str.ofString "minc") 215, .str (Str.ofString "rangec") 216, .str (Str.ofString "v") 217, .str (Str.ofString "s") 218, .str (Str.ofString "rc") 219, .str (Str.ofString "gc") 220, .str (Str.ofString "bc") 221, .str (Str.ofString "h") 222].toArray 0, [].toArray⟩) ::
  (nat_lit 25, ⟨.type "tuple", none, .seq [].toArray 0, [].toArray⟩) ::
  (nat_lit 27, ⟨.type "code", none, .fields [.str (Str.ofString "rgb_to_hsv") 208, .str (Str.ofString "rgb_to_hsv") 209, .str (Str.ofString "/claim/cut.py") 210, .int 25 0, .int 3 0, .int 0 0, .int 0 0, .int 3 0, .ref 22, .bool true, .int 181 0, .ref 23, .none, .ref 24, .ref 25, .ref 26, .int 223 0, .int 25 0, .str (Str.ofString "/claim/cut.py") 224].toArray, [].toArray⟩) ::
  (nat_lit 28, ⟨.type "function", none, .func { name := (Str.ofString "rgb_to_hsv"), qualname := (Str.ofString "rgb_to_hsv"), params := A2, body := .stmts (B2), scope := C2, globals := 3, closure := [], defaults := .none, kwdefaults := .none, doc := .none, pyModule := .str (Str.ofString "cpy313.colorsys") 187, annotations := none, code := .ref 27, closureTuple := .none, builtins := 0 }, [].toArray⟩) ::
  (nat_lit 29, ⟨.type "tuple", none, .seq [].toArray 0, [].toArray⟩) ::
  (nat_lit 31, ⟨.type "tuple", none, .seq [.str (Str.ofString "s") 231, .str (Str.ofString "amount") 232, .str (Str.ofString "lpos") 233, .str (Str.ofString "rpos") 234].toArray 0, [].toArray⟩) ::
  (nat_lit 32, ⟨.type "tuple", none, .seq [].toArray 0, [].toArray⟩) ::
  (nat_lit 34, ⟨.type "code", none, .fields [.str (Str.ofString "_strip_padding") 228, .str (Str.ofString "_strip_padding") 229, .str (Str.ofString "/claim/cut.py") 230, .int 45 0, .int 2 0, .int 0 0, .int 0 0, .int 3 0, .ref 29, .bool true, .int 181 0, .ref 30, .none, .ref 31, .ref 32, .ref 33, .int 235 0, .int 45 0, .str (Str.ofString "/claim/cut.py") 236].toArray, [].toArray⟩) ::
  (nat_lit 35, ⟨.type "function", none, .func { name := (Str.ofString "_strip_padding"), qualname := (Str.ofString "_strip_padding"), params := A4, body := .stmts (B4), scope := C4, globals := 3, closure := [], defaults := .none, kwdefaults := .none, doc := .none, pyModule := .str (Str.ofString "cpy313.locale") 226, annotations := none, code := .ref 34, closureTuple := .none, builtins := 0 }, [].toArray⟩) ::
  (nat_lit 43, ⟨.type "set", none, .set [(65024, .int 65024 256), (65025, .int 65025 257), (65026, .int 65026 258), (65027, .int 65027 259), (65028, .int 65028 260), (65029, .int 65029 261), (6150, .int 6150 242), (65030, .int 65030 262), (65031, .int 65031 263), (65032, .int 65032 264), (65033, .int 65033 265), (6155, .int 6155 243), (6156, .int 6156 244), (6157, .int 6157 245), (8203, .int 8203 246), (8204, .int 8204 247), (8205, .int 8205 248), (65034, .int 65034 266), (65035, .int 65035 267), (65036, .int 65036 268), (65037, .int 65037 269), (65038, .int 65038 270), (65039, .int 65039 271), (173, .int 173 240), (847, .int 847 241), (8288, .int 8288 249), (65279, .int 65279 250)].toArray 29 ⟨127, [0,1,2,3,4,5,6,7,8,9,10,11,12,13,14,15,16,17,18,19,20,21,22,45,79,96,127].toArray, [].toArray, 0, !(P.followText "set-order"), 2, true⟩, [].toArray⟩) ::
  (nat_lit 47, ⟨.type "tuple", none, .seq [].toArray 0, [].toArray⟩) ::
  (nat_lit 49, ⟨.type "tuple", none, .seq [.str (Str.ofString "code") 303].toArray 0, [].toArray⟩) ::
  (nat_lit 50, ⟨.type "tuple", none, .seq [].toArray 0, [].toArray⟩) ::
  (nat_lit 52, ⟨.type "code", none, .fields [.str (Str.ofString "in_table_b1") 300, .str (Str.ofString "in_table_b1") 301, .str (Str.ofString "/claim/cut.py") 302, .int 57 0, .int 1 0, .int 0 0, .int 0 0, .int 3 0, .ref 47, .bool true, .int 181 0, .ref 48, .none, .ref 49, .ref 50, .ref 51, .int 304 0, .int 57 0, .str (Str.ofString "/claim/cut.py") 305].toArray, [].toArray⟩) ::
  (nat_lit 53, ⟨.type "function", none, .func { name := (Str.ofString "in_table_b1"), qualname := (Str.ofString "in_table_b1"), params := A7, body := .stmts (B7), scope := C7, globals := 3, closure := [], defaults := .none, kwdefaults := .none, doc := .none, pyModule := .str (Str.ofString "cpy313.stringprep") 238, annotations := none, code := .ref 52, closureTuple := .none, builtins := 0 }, [].toArray⟩) ::
  (nat_lit 54, ⟨.type "dict", none, .dict (Array.mk (dE pw)) 650, [].toArray⟩) ::
  (nat_lit 93, ⟨.type "tuple", none, .seq [].toArray 0, [].toArray⟩) ::
  (nat_lit 95, ⟨.type "tuple", none, .seq [.str (Str.ofString "code") 2261, .str (Str.ofString "r") 2262].toArray 0, [].toArray⟩) ::
  (nat_lit 96, ⟨.type "tuple", none, .seq [].toArray 0, [].toArray⟩) ::
  (nat_lit 98, ⟨.type "code", none, .fields [.str (Str.ofString "map_table_b3") 2258, .str (Str.ofString "map_table_b3") 2259, .str (Str.ofString "/claim/cut.py") 2260, .int 60 0, .int 1 0, .int 0 0, .int 0 0, .int 3 0, .ref 93, .bool true, .int 181 0, .ref 94, .none, .ref 95, .ref 96, .ref 97, .int 2263 0, .int 60 0, .str (Str.ofString "/claim/cut.py") 2264].toArray, [].toArray⟩) ::
  (nat_lit 99, ⟨.type "function", none, .func { name := (Str.ofString "map_table_b3"), qualname := (Str.ofString "map_table_b3"), params := A9, body := .stmts (B9), scope := C9, globals := 3, closure := [], defaults := .none, kwdefaults := .none, doc := .none, pyModule := .str (Str.ofString "cpy313.stringprep") 238, annotations := none, code := .ref 98, closureTuple := .none, builtins := 0 }, [].toArray⟩) ::
  (nat_lit 100, ⟨.type "tuple", none, .seq [].toArray 0, [].toArray⟩) ::
  (nat_lit 102, ⟨.type "tuple", none, .seq [.str (Str.ofString "code") 2269].toArray 0, [].toArray⟩) ::
  (nat_lit 103, ⟨.type "tuple", none, .seq [].toArray 0, [].toArray⟩) ::
  (nat_lit 105, ⟨.type "code", none, .fields [.str (Str.ofString "in_table_c11") 2266, .str (Str.ofString "in_table_c11") 2267, .str (Str.ofString "/claim/cut.py") 2268, .int 65 0, .int 1 0, .int 0 0, .int 0 0, .int 3 0, .ref 100, .bool true, .int 181 0, .ref 101, .none, .ref 102, .ref 103, .ref 104, .int 2270 0, .int 65 0, .str (Str.ofString "/claim/cut.py") 2271].toArray, [].toArray⟩) ::
  (nat_lit 106, ⟨.type "function", none, .func { name := (Str.ofString "in_table_c11"), qualname := (Str.ofString "in_table_c11"), params := A10, body := .stmts (B10), scope := C10, globals := 3, closure := [], defaults := .none, kwdefaults := .none, doc := .none, pyModule := .str (Str.ofString "cpy313.stringprep") 238, annotations := none, code := .ref 105, closureTuple := .none, builtins := 0 }, [].toArray⟩) ::
  (nat_lit 107, ⟨.type "tuple", none, .seq [].toArray 0, [].toArray⟩) ::
  (nat_lit 110, ⟨.type "code", none, .fields [.str (Str.ofString "_law_draws") 2275, .str (Str.ofString "_law_draws") 2276, .str (Str.ofString "/claim/cut.py") 2277, .int 68 0, .int 2 0, .int 0 0, .int 0 0, .int 3 0, .ref 107, .bool true, .int 181 0, .ref 108, .none, .none, .none, .ref 109, .int 2278 0, .int 68 0, .str (Str.ofString "/claim/cut.py") 2279].toArray, [].toArray⟩) ::
  (nat_lit 111, ⟨.type "function", none, .func { name := (Str.ofString "_law_draws"), qualname := (Str.ofString "_law_draws"), params := A12, body := .stmts (B12), scope := C12, globals := 3, closure := [], defaults := .none, kwdefaults := .none, doc := .none, pyModule := .str (Str.ofString "law_tp0032_01") 2273, annotations := none, code := .ref 110, closureTuple := .none, builtins := 0 }, [].toArray⟩) ::
  (nat_lit 112, ⟨.type "tuple", none, .seq [].toArray 0, [].toArray⟩) ::
  (nat_lit 115, ⟨.type "code", none, .fields [.str (Str.ofString "_law_figures") 2281, .str (Str.ofString "_law_figures") 2282, .str (Str.ofString "/claim/cut.py") 2283, .int 70 0, .int 1 0, .int 0 0, .int 0 0, .int 3 0, .ref 112, .bool true, .int 181 0, .ref 113, .none, .none, .none, .ref 114, .int 2284 0, .int 70 0, .str (Str.ofString "/claim/cut.py") 2285].toArray, [].toArray⟩) ::
  (nat_lit 116, ⟨.type "function", none, .func { name := (Str.ofString "_law_figures"), qualname := (Str.ofString "_law_figures"), params := A13, body := .stmts (B13), scope := C13, globals := 3, closure := [], defaults := .none, kwdefaults := .none, doc := .none, pyModule := .str (Str.ofString "law_tp0032_01") 2273, annotations := none, code := .ref 115, closureTuple := .none, builtins := 0 }, [].toArray⟩) ::
  (nat_lit 117, ⟨.type "tuple", none, .seq [].toArray 0, [].toArray⟩) ::
  (nat_lit 119, ⟨.type "tuple", none, .seq [.str (Str.ofString "figure") 2290, .str (Str.ofString "letter") 2291, .str (Str.ofString "way") 2292].toArray 0, [].toArray⟩) ::
  (nat_lit 120, ⟨.type "tuple", none, .seq [].toArray 0, [].toArray⟩) ::
  (nat_lit 122, ⟨.type "code", none, .fields [.str (Str.ofString "_law_piece") 2287, .str (Str.ofString "_law_piece") 2288, .str (Str.ofString "/claim/cut.py") 2289, .int 72 0, .int 1 0, .int 0 0, .int 0 0, .int 3 0, .ref 117, .bool true, .int 181 0, .ref 118, .none, .ref 119, .ref 120, .ref 121, .int 2293 0, .int 72 0, .str (Str.ofString "/claim/cut.py") 2294].toArray, [].toArray⟩) ::
  (nat_lit 123, ⟨.type "function", none, .func { name := (Str.ofString "_law_piece"), qualname := (Str.ofString "_law_piece"), params := A14, body := .stmts (B14), scope := C14, globals := 3, closure := [], defaults := .none, kwdefaults := .none, doc := .none, pyModule := .str (Str.ofString "law_tp0032_01") 2273, annotations := none, code := .ref 122, closureTuple := .none, builtins := 0 }, [].toArray⟩) ::
  (nat_lit 124, ⟨.type "tuple", none, .seq [].toArray 0, [].toArray⟩) ::
  (nat_lit 127, ⟨.type "code", none, .fields [.str (Str.ofString "_law_word") 2296, .str (Str.ofString "_law_word") 2297, .str (Str.ofString "/claim/cut.py") 2298, .int 84 0, .int 1 0, .int 0 0, .int 0 0, .int 3 0, .ref 124, .bool true, .int 181 0, .ref 125, .none, .none, .none, .ref 126, .int 2299 0, .int 84 0, .str (Str.ofString "/claim/cut.py") 2300].toArray, [].toArray⟩) ::
  (nat_lit 128, ⟨.type "function", none, .func { name := (Str.ofString "_law_word"), qualname := (Str.ofString "_law_word"), params := A15, body := .stmts (B15), scope := C15, globals := 3, closure := [], defaults := .none, kwdefaults := .none, doc := .none, pyModule := .str (Str.ofString "law_tp0032_01") 2273, annotations := none, code := .ref 127, closureTuple := .none, builtins := 0 }, [].toArray⟩) ::
  (nat_lit 129, ⟨.type "tuple", none, .seq [].toArray 0, [].toArray⟩) ::
  (nat_lit 132, ⟨.type "code", none, .fields [.str (Str.ofString "_law_kept") 2302, .str (Str.ofString "_law_kept") 2303, .str (Str.ofString "/claim/cut.py") 2304, .int 87 0, .int 1 0, .int 0 0, .int 0 0, .int 3 0, .ref 129, .bool true, .int 181 0, .ref 130, .none, .none, .none, .ref 131, .int 2305 0, .int 87 0, .str (Str.ofString "/claim/cut.py") 2306].toArray, [].toArray⟩) ::
  (nat_lit 133, ⟨.type "function", none, .func { name := (Str.ofString "_law_kept"), qualname := (Str.ofString "_law_kept"), params := A16, body := .stmts (B16), scope := C16, globals := 3, closure := [], defaults := .none, kwdefaults := .none, doc := .none, pyModule := .str (Str.ofString "law_tp0032_01") 2273, annotations := none, code := .ref 132, closureTuple := .none, builtins := 0 }, [].toArray⟩) ::
  (nat_lit 134, ⟨.type "tuple", none, .seq [].toArray 0, [].toArray⟩) ::
  (nat_lit 137, ⟨.type "code", none, .fields [.str (Str.ofString "_law_told") 2308, .str (Str.ofString "_law_told") 2309, .str (Str.ofString "/claim/cut.py") 2310, .int 90 0, .int 1 0, .int 0 0, .int 0 0, .int 3 0, .ref 134, .bool true, .int 181 0, .ref 135, .none, .none, .none, .ref 136, .int 2311 0, .int 90 0, .str (Str.ofString "/claim/cut.py") 2312].toArray, [].toArray⟩) ::
  (nat_lit 138, ⟨.type "function", none, .func { name := (Str.ofString "_law_told"), qualname := (Str.ofString "_law_told"), params := A17, body := .stmts (B17), scope := C17, globals := 3, closure := [], defaults := .none, kwdefaults := .none, doc := .none, pyModule := .str (Str.ofString "law_tp0032_01") 2273, annotations := none, code := .ref 137, closureTuple := .none, builtins := 0 }, [].toArray⟩) ::
  (nat_lit 139, ⟨.type "tuple", none, .seq [].toArray 0, [].toArray⟩) ::
  (nat_lit 141, ⟨.type "tuple", none, .seq [.str (Str.ofString "row") 2317, .str (Str.ofString "spot") 2318, .str (Str.ofString "total") 2319, .str (Str.ofString "i") 2320, .str (Str.ofString "j") 2321, .str (Str.ofString "k") 2322].toArray 0, [].toArray⟩) ::
  (nat_lit 142, ⟨.type "tuple", none, .seq [].toArray 0, [].toArray⟩) ::
  (nat_lit 144, ⟨.type "code", none, .fields [.str (Str.ofString "_law_sum") 2314, .str (Str.ofString "_law_sum") 2315, .str (Str.ofString "/claim/cut.py") 2316, .int 98 0, .int 2 0, .int 0 0, .int 0 0, .int 3 0, .ref 139, .bool true, .int 181 0, .ref 140, .none, .ref 141, .ref 142, .ref 143, .int 2323 0, .int 98 0, .str (Str.ofString "/claim/cut.py") 2324].toArray, [].toArray⟩) ::
  (nat_lit 145, ⟨.type "function", none, .func { name := (Str.ofString "_law_sum"), qualname := (Str.ofString "_law_sum"), params := A18, body := .stmts (B18), scope := C18, globals := 3, closure := [], defaults := .none, kwdefaults := .none, doc := .none, pyModule := .str (Str.ofString "law_tp0032_01") 2273, annotations := none, code := .ref 144, closureTuple := .none, builtins := 0 }, [].toArray⟩) ::
  (nat_lit 146, ⟨.type "tuple", none, .seq [].toArray 0, [].toArray⟩) ::
  (nat_lit 148, ⟨.type "tuple", none, .seq [.str (Str.ofString "start") 2329, .str (Str.ofString "goal") 2330, .str (Str.ofString "layer") 2331, .str (Str.ofString "moves") 2332, .str (Str.ofString "further") 2333, .str (Str.ofString "row") 2334, .str (Str.ofString "i") 2335, .str (Str.ofString "j") 2336, .str (Str.ofString "moved") 2337].toArray 0, [].toArray⟩) ::
  (nat_lit 149, ⟨.type "tuple", none, .seq [].toArray 0, [].toArray⟩) ::
  (nat_lit 151, ⟨.type "code", none, .fields [.str (Str.ofString "_law_moves") 2326, .str (Str.ofString "_law_moves") 2327, .str (Str.ofString "/claim/cut.py") 2328, .int 103 0, .int 2 0, .int 0 0, .int 0 0, .int 3 0, .ref 146, .bool true, .int 181 0, .ref 147, .none, .ref 148, .ref 149, .ref 150, .int 2338 0, .int 103 0, .str (Str.ofString "/claim/cut.py") 2339].toArray, [].toArray⟩) ::
  (nat_lit 152, ⟨.type "function", none, .func { name := (Str.ofString "_law_moves"), qualname := (Str.ofString "_law_moves"), params := A19, body := .stmts (B19), scope := C19, globals := 3, closure := [], defaults := .none, kwdefaults := .none, doc := .none, pyModule := .str (Str.ofString "law_tp0032_01") 2273, annotations := none, code := .ref 151, closureTuple := .none, builtins := 0 }, [].toArray⟩) ::
  (nat_lit 153, ⟨.type "tuple", none, .seq [].toArray 0, [].toArray⟩) ::
  (nat_lit 156, ⟨.type "code", none, .fields [.str (Str.ofString "_law_holds") 2341, .str (Str.ofString "_law_holds") 2342, .str (Str.ofString "/claim/cut.py") 2343, .int 122 0, .int 3 0, .int 0 0, .int 0 0, .int 3 0, .ref 153, .bool true, .int 181 0, .ref 154, .none, .none, .none, .ref 155, .int 2344 0, .int 122 0, .str (Str.ofString "/claim/cut.py") 2345].toArray, [].toArray⟩) ::
  (nat_lit 157, ⟨.type "function", none, .func { name := (Str.ofString "_law_holds"), qualname := (Str.ofString "_law_holds"), params := A20, body := .stmts (B20), scope := C20, globals := 3, closure := [], defaults := .none, kwdefaults := .none, doc := .none, pyModule := .str (Str.ofString "law_tp0032_01") 2273, annotations := none, code := .ref 156, closureTuple := .none, builtins := 0 }, [].toArray⟩) ::
  (nat_lit 158, ⟨.type "tuple", none, .seq [].toArray 0, [].toArray⟩) ::
  (nat_lit 160, ⟨.type "tuple", none, .seq [.str (Str.ofString "script") 2350, .str (Str.ofString "draws") 2351, .str (Str.ofString "first") 2352, .str (Str.ofString "second") 2353, .str (Str.ofString "spot") 2354].toArray 0, [].toArray⟩) ::
  (nat_lit 161, ⟨.type "tuple", none, .seq [].toArray 0, [].toArray⟩) ::
  (nat_lit 163, ⟨.type "code", none, .fields [.str (Str.ofString "law") 2347, .str (Str.ofString "law") 2348, .str (Str.ofString "/claim/cut.py") 2349, .int 134 0, .int 1 0, .int 0 0, .int 0 0, .int 3 0, .ref 158, .bool true, .int 181 0, .ref 159, .none, .ref 160, .ref 161, .ref 162, .int 2355 0, .int 134 0, .str (Str.ofString "/claim/cut.py") 2356].toArray, [].toArray⟩) ::
  (nat_lit 164, ⟨.type "function", none, .func { name := (Str.ofString "law"), qualname := (Str.ofString "law"), params := A21, body := .stmts (B21), scope := C21, globals := 3, closure := [], defaults := .none, kwdefaults := .none, doc := .none, pyModule := .str (Str.ofString "law_tp0032_01") 2273, annotations := none, code := .ref 163, closureTuple := .none, builtins := 0 }, [].toArray⟩) :: []
theorem KW_eq : Kp pw = KW := by kernel_rfl
noncomputable abbrev asKW : List Addr := [nat_lit 2, nat_lit 3, nat_lit 6, nat_lit 15, nat_lit 17, nat_lit 18, nat_lit 20, nat_lit 21, nat_lit 22, nat_lit 24, nat_lit 25, nat_lit 27, nat_lit 28, nat_lit 29, nat_lit 31, nat_lit 32, nat_lit 34, nat_lit 35, nat_lit 43, nat_lit 47, nat_lit 49, nat_lit 50, nat_lit 52, nat_lit 53, nat_lit 54, nat_lit 93, nat_lit 95, nat_lit 96, nat_lit 98, nat_lit 99, nat_lit 100, nat_lit 102, nat_lit 103, nat_lit 105, nat_lit 106, nat_lit 107, nat_lit 110, nat_lit 111, nat_lit 112, nat_lit 115, nat_lit 116, nat_lit 117, nat_lit 119, nat_lit 120, nat_lit 122, nat_lit 123, nat_lit 124, nat_lit 127, nat_lit 128, nat_lit 129, nat_lit 132, nat_lit 133, nat_lit 134, nat_lit 137, nat_lit 138, nat_lit 139, nat_lit 141, nat_lit 142, nat_lit 144, nat_lit 145, nat_lit 146, nat_lit 148, nat_lit 149, nat_lit 151, nat_lit 152, nat_lit 153, nat_lit 156, nat_lit 157, nat_lit 158, nat_lit 160, nat_lit 161, nat_lit 163, nat_lit 164]
noncomputable abbrev hookW : Hook := kHook KW asKW (fun _ => rfl)
theorem left_w : LeftO pw (vw pw) looseL (XtP pw) hookW.obs hookW.val NTop := by
  have h : ∀ (K : Params → Frag) (e : Kp pw = K) (h : ∀ P, asKW = (K P).map (·.1)), LeftO pw (vw pw) looseL (XtP pw) (kHook K asKW h).obs (kHook K asKW h).val NTop := by
    intro K e h
    subst e
    exact left_p
  exact h KW KW_eq _
end
section
open PySem PySem.W PySem.Calls PyProof.Rows
noncomputable def rq : OpenLaw := { prog := pq, name := mkS [108, 97, 119], about := [mkS [114, 103, 98, 95, 116, 111, 95, 104, 108, 115]], foot := 10, most := some 63, bound := none, writes := false }
theorem rw_rq : PySem.Challenge.rw_tp0032_01 = rq := by
  have h : PySem.Challenge.rw_tp0032_01 = { prog := pw, name := Str.ofString "law", about := [Str.ofString "rgb_to_hls"], foot := 10, most := some 63, bound := none, writes := false } := rfl
  have a : Str.ofString "law" = mkS [108, 97, 119] := PySem.W.Fast.ofString_ofList ['l', 'a', 'w']
  have b : Str.ofString "rgb_to_hls" = mkS [114, 103, 98, 95, 116, 111, 95, 104, 108, 115] := PySem.W.Fast.ofString_ofList ['r', 'g', 'b', '_', 't', 'o', '_', 'h', 'l', 's']
  rw [h, pw_pq, a, b]
  rfl
theorem said_q : OpenLaw.wellSaid rq = true := by
  rw [PySem.W.Fast.te9446332074065402090]
  kernel_rfl
theorem said : OpenLaw.wellSaid PySem.Challenge.rw_tp0032_01 = true := by
  rw [rw_rq]
  exact said_q
end
section
open PySem PySem.W PySem.Calls PyProof.Rows PySem.Spec
noncomputable abbrev ClaimK (w : World) (mean : ExcName → Option Value) (mg mb : Str → Option Value) (f : Addr) (A : List (Addr × List Value × List Int)) (pre : Prop) (vs : List Value) (R : Tok → Value) : Prop :=
  ∀ news : List (Addr × Obj), CbClaim pw w (KW w.params) (vw pw) (looseW (vw pw) looseL) mean mg mb f news A pre vs R
variable {w : World} {mean : ExcName → Option Value} {mg mb : Str → Option Value}
theorem ClaimK.use {f : Addr} {pre : Prop} {vs : List Value} {R : Tok → Value} (C : ClaimK w mean mg mb f [] pre vs R) {dp un : Nat} {gd : Option (List Code)} {cn : Str} {cs : Scope} {a : Addr} {ccd : Value} {cl : List (Str × Addr)} {outer : List Env} {A₀ : Around} {base h₀ : Heap} {L : Addr} {m : Str → Option Value} {s : Shared} {Q E : Value → Shared → Prop} {news : List (Addr × Obj)}
    (B : Below A₀ base outer h₀) (F : Fr h₀ L s.heap m) (X : (KW w.params).In h₀) (N : News h₀ L s.heap news) (T : Top (vw pw) (looseW (vw pw) looseL) mean mg mb h₀) (hk : cs.kind = .function) (hp : pre) (hd : dp + 1 < recursionLimit) (hu : un + 8 < cLine)
    (hQ : ∀ (t : Tok) (h' : Heap) (tk' : Nat), Fr h₀ L h' m → News h₀ L h' news → Q (R t) { s with heap := h', toks := tk' }) : wpAny (model pw w) (ktrTop dp un gd cn cs L a ccd cl outer) (call (.ref f) vs) Q E s :=
  C news dp un gd cn cs a ccd cl outer A₀ base h₀ L m s Q E B F X N T hk hp hd hu hQ
noncomputable def ClaimR (k : Nat) (w : World) (mean : ExcName → Option Value) (mg mb : Str → Option Value) (f : Addr) (own : List (Addr × Obj)) (pre : Prop) (vs : List Value) (P : Value → List (Addr × Obj) → Prop) : Prop :=
  ∀ (dp un : Nat) (gd : Option (List Code)) (cn : Str) (cs : Scope) (a : Addr) (ccd : Value) (cl : List (Str × Addr)) (outer : List Env) (A₀ : Around) (base h₀ : Heap) (L : Addr) (m : Str → Option Value) (s : Shared) (Q E : Value → Shared → Prop),
    Below A₀ base outer h₀ → Fr h₀ L s.heap m → (KW w.params).In h₀ → News h₀ L s.heap own → Top (vw pw) (looseW (vw pw) looseL) mean mg mb h₀ → cs.kind = .function → pre → dp + k < recursionLimit → un + 8 * k < cLine →
    (∀ (v : Value) (led : List (Addr × Obj)) (h' : Heap) (tk' : Nat), P v led → Fr h₀ L h' m → News h₀ L h' led → Q v { s with heap := h', toks := tk' }) →
      wpAny (model pw w) (ktrTop dp un gd cn cs L a ccd cl outer) (call (.ref f) vs) Q E s
noncomputable abbrev One (own : List (Addr × Obj)) (R : Tok → Value) (v : Value) (led : List (Addr × Obj)) : Prop := ∃ t, v = R t ∧ led = own
theorem ClaimR.use {k : Nat} {f : Addr} {own : List (Addr × Obj)} {pre : Prop} {vs : List Value} {P : Value → List (Addr × Obj) → Prop} (C : ClaimR k w mean mg mb f own pre vs P) {dp un : Nat} {gd : Option (List Code)} {cn : Str} {cs : Scope} {a : Addr} {ccd : Value} {cl : List (Str × Addr)} {outer : List Env} {A₀ : Around} {base h₀ : Heap} {L : Addr} {m : Str → Option Value} {s : Shared} {Q E : Value → Shared → Prop}
    (B : Below A₀ base outer h₀) (F : Fr h₀ L s.heap m) (X : (KW w.params).In h₀) (N : News h₀ L s.heap own) (T : Top (vw pw) (looseW (vw pw) looseL) mean mg mb h₀) (hk : cs.kind = .function) (hp : pre) (hd : dp + k < recursionLimit) (hu : un + 8 * k < cLine)
    (hQ : ∀ (v : Value) (led : List (Addr × Obj)) (h' : Heap) (tk' : Nat), P v led → Fr h₀ L h' m → News h₀ L h' led → Q v { s with heap := h', toks := tk' }) : wpAny (model pw w) (ktrTop dp un gd cn cs L a ccd cl outer) (call (.ref f) vs) Q E s :=
  C dp un gd cn cs a ccd cl outer A₀ base h₀ L m s Q E B F X N T hk hp hd hu hQ
theorem ltn1 {a b : Nat} (h : a < b) : a ≠ b + 1 := Nat.ne_of_lt (Nat.lt_succ_of_lt h)
theorem gtn1 {a b : Nat} (h : a < b) : b + 1 ≠ a := Ne.symm (Nat.ne_of_lt (Nat.lt_succ_of_lt h))
end
open PySem PySem.W PySem.Calls PyProof.Rows PySem.Spec
local macro_rules | `(tactic| walk_at "execs") => `(tactic| (delta B1 B2 B4 B7 B9 B10 B12 B13 B14 B15 B16 B17 B18 B19 B20 B21 C1 C2 C4 C7 C9 C10 C12 C13 C14 C15 C16 C17 C18 C19 C20 C21 whB whC; dsimp only))
section
open PySem PySem.W PySem.Calls PyProof.Rows PySem.Spec
set_option compiler.extract_closed false
theorem fill : PySem.Challenge.rw_tp0032_01 = PySem.Challenge.rw_tp0032_01 ∧ KW = KW := by k_fill; exact ⟨rfl, rfl⟩
noncomputable def lettN (k : Int) : Nat := if k % 3 = 0 then 114 else if k % 3 = 1 then 103 else 98
noncomputable def pieceL (f : Int) : List Nat :=
  if f / 3 = 0 then [lettN f] else if f / 3 = 1 then [lettN f - 32] else if f / 3 = 2 then [119808 + lettN f - 97] else if f / 3 = 3 then [119860 + lettN f - 97] else if f / 3 = 4 then [lettN f, 173] else [(8203 + f % 3).toNat, lettN f - 32]
noncomputable def pieceS (f : Int) : Str := ⟨⟨pieceL f⟩⟩
variable {w : World} {mean : ExcName → Option Value} {mg mb : Str → Option Value}

theorem all18 {P : Int → Prop} (h0 : P 0) (h1 : P 1) (h2 : P 2) (h3 : P 3) (h4 : P 4) (h5 : P 5) (h6 : P 6) (h7 : P 7) (h8 : P 8) (h9 : P 9) (h10 : P 10) (h11 : P 11) (h12 : P 12) (h13 : P 13) (h14 : P 14) (h15 : P 15) (h16 : P 16) (h17 : P 17) : ∀ n : Int, 0 ≤ n ∧ n < 18 → P n := by
  rintro n ⟨a, b⟩
  obtain ⟨k, rfl⟩ := Int.eq_ofNat_of_zero_le a
  match k, (by omega : k < 18) with
  | 0, _ => exact h0
  | 1, _ => exact h1
  | 2, _ => exact h2
  | 3, _ => exact h3
  | 4, _ => exact h4
  | 5, _ => exact h5
  | 6, _ => exact h6
  | 7, _ => exact h7
  | 8, _ => exact h8
  | 9, _ => exact h9
  | 10, _ => exact h10
  | 11, _ => exact h11
  | 12, _ => exact h12
  | 13, _ => exact h13
  | 14, _ => exact h14
  | 15, _ => exact h15
  | 16, _ => exact h16
  | 17, _ => exact h17
  | k + 18, h => exact absurd h (by omega)
set_option maxHeartbeats 40000000 in
theorem c_piece (n : Int) (t : Tok) : ClaimK w mean mg mb 123 [] (0 ≤ n ∧ n < 18) [.int n t] (fun u => .str (pieceS n) u) := by
  dsimp only [ClaimK, CbClaim, CbLists, CbRet]
  intro news dp un gd cn cs a ccd cl outer A₀ base h₀ L m s Q E B F X N T hk hpre hd hu hret
  revert n
  refine all18 ?_ ?_ ?_ ?_ ?_ ?_ ?_ ?_ ?_ ?_ ?_ ?_ ?_ ?_ ?_ ?_ ?_ ?_
  all_goals (intro hret; refine wpAny_call ?_; k_dflt cell_enter; k_steps; (refine cb_retS (Q := Q) hret ?e1 ?e2 ?e3); (case e2 => k_asm); (case e3 => first | k_asm | (refine' cb_drop ?cbN ?cbS; (case cbN => assumption); (case cbS => kcj_all))); (case e1 => first | decide +kernel | trace_state))
end
section
open PySem PySem.W PySem.Calls PyProof.Rows PySem.Spec PyProof.Rows.LCg PyProof.Rows.LCt
section
variable {prog : Program} {w : World} {A : Around} {E : Value → Shared → Prop} {s : Shared} {h₀ : Heap} {L : Addr} {m : Str → Option Value} {env : Env}
/-- a ledger outlives a change of an object that it does not hold -/
theorem news_by {h h' : Heap} {C : Addr} {l : List (Addr × Obj)} (N : News h₀ L h l) (b : Heap.SameBut C h h') (out : ∀ p ∈ l, p.1 ≠ C) : News h₀ L h' l :=
  fun p hp => (N p hp).imp_left (b.extBut p.1 p.2 (out p hp))
/-- frame and ledger once an iterator is laid behind the heap -/
theorem laid_iter {h : Heap} {l : List (Addr × Obj)} (F : Fr h₀ L h m) (N : News h₀ L h l) (o : Obj) :
    (∀ b x, h.get? b = some x → (h.push o).get? b = some x) ∧ Fr h₀ L (h.push o) m ∧ News h₀ L (h.push o) l ∧ L ≠ h.objs.size ∧ h₀.get? h.objs.size = none ∧ (∀ p ∈ l, p.1 ≠ h.objs.size) ∧ h.objs.size < (h.push o).objs.size :=
  have k : ∀ b x, h.get? b = some x → (h.push o).get? b = some x := fun _ _ => Heap.get?_push_of_some _
  ⟨k, F.keeps k, N.keeps k, Nat.ne_of_lt F.ns.lt, F.fresh, N.apart, Heap.size_push .. ▸ Nat.lt_succ_self _⟩
/-- the scope of a block that closes over nothing anew -/
structure Shut (scope : Scope) (env : Env) (cl : List (Str × Addr)) : Prop where
  clos : closureFor scope env = pure cl
  fn : scope.kind = .function
  own : ∀ z ∈ scope.names, z.2 = .local → scope.names.lookup z.1 = some .local
/-- the run inside a list comprehension, from its iterator on -/
noncomputable def Inner (prog : Program) (w : World) (A : Around) (E : Value → Shared → Prop) (env : Env) (elt : PySem.Expr) (gens : List Comprehension) (scope : Scope) (cl : List (Str × Addr)) (pos : Pos) (RR : Value → Addr → Result → Shared → Prop) (it : Value) : Shared → Prop :=
  wpAny (model prog w) A (newList []) (fun acc => wpAny (model prog w) A (newFunctionEnv scope env.globals cl [] env.qual none .none (some env))
    (fun inner => codeAny (model prog w) A (.compStart (.ListComp elt gens scope pos) 0 it acc { inner with scope := relabel scope env }) (RR acc inner.locals)) E) E
/-- what the finished list is wanted for: `RR` answers at whatever heap holds the list and keeps frame and ledger -/
noncomputable def Yields (h₀ : Heap) (L : Addr) (m : Str → Option Value) (s : Shared) (RR : Value → Addr → Result → Shared → Prop) (Fin : List Value → List (Addr × Obj) → Prop) : Prop :=
  ∀ D C g n mc vs l, Fr h₀ L g m → News h₀ L g ((D, lst vs) :: l) → Off1 D l → g.Ns C mc → h₀.get? C = none → C ≠ L → C ≠ D → (∀ p ∈ l, p.1 ≠ C) → Fin vs l → RR (.ref D) C (.ok .next) { s with heap := g, toks := n }
/-- `xv` is an iterable whose walk is known -/
noncomputable def Ready (prog : Program) (w : World) (A : Around) (E : Value → Shared → Prop) (h₀ : Heap) (L : Addr) (m : Str → Option Value) (env : Env) (elt : PySem.Expr) (gens : List Comprehension) (scope : Scope) (cl : List (Str × Addr)) (pos : Pos)
    (Fin : Shared → List Value → List (Addr × Obj) → Prop) (xv : Value) (s : Shared) : Prop :=
  ∀ RR, (∀ g, Yields h₀ L m { s with heap := g } RR (Fin { s with heap := g })) → wpAny (model prog w) A (pyIter xv) (Inner prog w A E env elt gens scope cl pos RR) E s
theorem yields_E {Q : Value → Shared → Prop} : Yields h₀ L m s (compPost (model prog w) A E none Q) (FinE h₀ L m s Q) :=
  fun D _ _ n mc _ _ F N o nc c0 cl cd out fin => ⟨mc, nc, fun g b => fin D g n (F.change b cl c0) (news_by N b (List.forall_mem_cons.mpr ⟨Ne.symm cd, out⟩)) o⟩
theorem yields_A {y : Str} {py : Pos} {Q : Flow → Shared → Prop} (hL : env.locals = L) (hy : env.kindOf y = some .local) (hp : (env.scope.kind == .class || (env.scope.kind == .module && env.locals != env.globals)) = false) :
    Yields h₀ L m s (compPost (model prog w) A E (some (assign (.Name y py) env)) fun _ => Q .next) (FinA h₀ L m s y Q) := by
  cases hL
  intro D C g n mc vs l F N o nc c0 cl cd out fin
  refine wpAny_assign_Name (wpAny_storeName_local hy F.ns (fun g₁ ns b₁ => ⟨mc, nc.sameBut b₁ cl, fun g₂ b₂ => ?_⟩) hp)
  exact fin D g₂ _ ((F.set ns b₁).change b₂ cl c0) (news_by (N.set b₁) b₂ (List.forall_mem_cons.mpr ⟨Ne.symm cd, out⟩)) o
variable {elt t iter : PySem.Expr} {ifs : List PySem.Expr} {gs : List Comprehension} {scope : Scope} {cl : List (Str × Addr)} {pos spos : Pos} {y : Str} {py : Pos}
theorem door_E {Q : Value → Shared → Prop} (_F : Fr h₀ L s.heap m) (S : Shut scope env cl) (hs : ∀ z, foldedSetIterable iter env z = pure z)
    (h : wpAny (model prog w) A (eval iter env) (Ready prog w A E h₀ L m env elt (⟨t, iter, ifs, 0⟩ :: gs) scope cl pos fun s₂ => FinE h₀ L m s₂ Q) E s) :
    wpAny (model prog w) A (eval (.ListComp elt (⟨t, iter, ifs, 0⟩ :: gs) scope pos) env) Q E s := by
  rw [eval_ListComp]
  exact (wpAny_comprehension_free (use := none) rfl hs S.clos S.fn S.own (wpAny_mono h (fun _ _ r => r _ fun _ => yields_E) fun _ _ => id))
theorem door_A {Q : Flow → Shared → Prop} (_F : Fr h₀ L s.heap m) (hL : env.locals = L) (hw : swapsWith (.ListComp elt (⟨t, iter, ifs, 0⟩ :: gs) scope pos) (some (.Name y py)) spos.line env = pure true) (S : Shut scope env cl)
    (hs : ∀ z, foldedSetIterable iter env z = pure z) (hy : env.kindOf y = some .local) (hp : (env.scope.kind == .class || (env.scope.kind == .module && env.locals != env.globals)) = false)
    (h : wpAny (model prog w) A (eval iter env) (Ready prog w A E h₀ L m env elt (⟨t, iter, ifs, 0⟩ :: gs) scope cl pos fun s₂ => FinA h₀ L m s₂ y Q) E s) :
    wpAny (model prog w) A (exec (.Assign [.Name y py] (.ListComp elt (⟨t, iter, ifs, 0⟩ :: gs) scope pos) spos) env) Q E s := by
  rw [exec_Assign_Name_used _ _ _ _ hw, arm_evalThenUse_ListComp]
  have r := wpAny_comprehension_free (Q := fun _ => Q .next) (use := some (assign (.Name y py) env)) (pos := firstIterPos (⟨t, iter, ifs, 0⟩ :: gs) pos) (newAcc := newList []) (e := .ListComp elt (⟨t, iter, ifs, 0⟩ :: gs) scope pos)
    rfl hs S.clos S.fn S.own (wpAny_mono h (fun _ _ r => r _ fun _ => yields_A hL hy hp) fun _ _ => id)
  exact wpAny_bind (wpAny_standAt (wpAny_bind (wpAny_bind (wpAny_mono r (fun _ _ q => wpAny_pure (wpAny_pure q)) fun _ _ => id))))
end
section
variable {prog : Program} {w : World} {A : Around} {E : Value → Shared → Prop} {s : Shared} {h₀ : Heap} {L : Addr} {m : Str → Option Value} {env : Env}
variable {ct elt iter : PySem.Expr} {x : Str} {px : Pos} {scope : Scope} {cl : List (Str × Addr)} {pos : Pos} {Fin : Shared → List Value → List (Addr × Obj) → Prop} {xv : Value} {o : Obj} {fp : List Addr} {n : Nat} {P : Nat → Value → Prop} {St : Nat → Heap → Prop} {S : List (Addr × Obj) → Prop} {l : List (Addr × Obj)}
/-- an iterable whose iterator is one object laid behind the heap, read by the name `x` -/
theorem Ready.pushed (go : ∀ R : Value → Shared → Prop, R (.ref s.heap.objs.size) { s with heap := s.heap.push o } → wpAny (model prog w) A (pyIter xv) R E s) (W : Walks prog w A s.heap.objs.size fp [s.heap.objs.size] n P St) (hz : n ≤ sizeLine)
    (own : ∀ i h, St i h → ∃ o, h.get? s.heap.objs.size = some o) (stay : ∀ i h h' o nw, St i h → h.get? s.heap.objs.size = some o → h'.get? s.heap.objs.size = some o → (∀ b o, h₀.get? b = some o → h'.get? b = some o) → News h₀ L h' nw → S nw → St i h')
    (st : St 0 (s.heap.push o)) (low : ∀ b ∈ fp, b ≤ s.heap.objs.size) (F : Fr h₀ L s.heap m) (N : News h₀ L s.heap l) (hS : S l) (hc : ∀ z ∈ scope.names, z.2 ≠ .cell) (hf : scope.kind = .function) (hx : scope.names.lookup x = some .local)
    (R : ∀ g, CompRest prog w A h₀ L m env elt x scope cl { s with heap := g } S P (Fin { s with heap := g }) n 0 [] l) : Ready prog w A E h₀ L m env elt [⟨.Name x px, iter, [], 0⟩] scope cl pos Fin xv s := fun RR G => by
  obtain ⟨_, F', N', hL, h0, out, lt⟩ := laid_iter F N o
  exact go _ (block_U W hz own stay hc hf hx st (fun b hb => Nat.lt_of_le_of_lt (low b hb) lt) F' N' hL h0 out hS (R _) fun D C g n mc vs l F N o nc c0 _ cl _ cd out fin => G _ D C g n mc vs l F N o nc c0 cl cd out fin)
/-- the same with a test -/
theorem Ready.pushed_if (go : ∀ R : Value → Shared → Prop, R (.ref s.heap.objs.size) { s with heap := s.heap.push o } → wpAny (model prog w) A (pyIter xv) R E s) (W : Walks prog w A s.heap.objs.size fp [s.heap.objs.size] n P St) (hz : n ≤ sizeLine)
    (own : ∀ i h, St i h → ∃ o, h.get? s.heap.objs.size = some o) (stay : ∀ i h h' o nw, St i h → h.get? s.heap.objs.size = some o → h'.get? s.heap.objs.size = some o → (∀ b o, h₀.get? b = some o → h'.get? b = some o) → News h₀ L h' nw → S nw → St i h')
    (st : St 0 (s.heap.push o)) (low : ∀ b ∈ fp, b ≤ s.heap.objs.size) (F : Fr h₀ L s.heap m) (N : News h₀ L s.heap l) (hS : S l) (hc : ∀ z ∈ scope.names, z.2 ≠ .cell) (hf : scope.kind = .function) (hx : scope.names.lookup x = some .local)
    (R : ∀ g, CompRestT prog w A h₀ L m env ct elt x scope cl { s with heap := g } S P (Fin { s with heap := g }) n 0 [] l) : Ready prog w A E h₀ L m env elt [⟨.Name x px, iter, [ct], 0⟩] scope cl pos Fin xv s := fun RR G => by
  obtain ⟨_, F', N', hL, h0, out, lt⟩ := laid_iter F N o
  exact go _ (block_T W hz own stay hc hf hx st (fun b hb => Nat.lt_of_le_of_lt (low b hb) lt) F' N' hL h0 out hS (R _) fun D C g n mc vs l F N o nc c0 _ cl _ cd out fin => G _ D C g n mc vs l F N o nc c0 cl cd out fin)
theorem walks_text (hh : A.handled = none) (I : Addr) (y : Str) (t : Tok) : Walks prog w A I [I] [I] y.cps.size (SignAt y) (fun i h => h.IsStrIter I (strIterType y) y t i) := by
  rcases hq : y.cps.all (· < 128) with _ | _ <;> simp only [strIterType, hq]
  · exact Walks.strWide hh I y t
  · exact Walks.strAscii hh I y t
/-- an iterator over a text is the same wherever its object is -/
theorem text_stay {I : Addr} {T : String} {y : Str} {t : Tok} {i : Nat} {h h' : Heap} {o : Obj} (st : h.IsStrIter I T y t i) (e : h.get? I = some o) (e' : h'.get? I = some o) : h'.IsStrIter I T y t i :=
  st.imp fun _ z => z.imp_left fun q => e'.trans (e.symm.trans q)
theorem Ready.text {y : Str} {t : Tok} (hh : A.handled = none) (F : Fr h₀ L s.heap m) (N : News h₀ L s.heap l) (hz : y.cps.size ≤ sizeLine) (hc : ∀ z ∈ scope.names, z.2 ≠ .cell) (hf : scope.kind = .function) (hx : scope.names.lookup x = some .local)
    (R : ∀ g, CompRest prog w A h₀ L m env elt x scope cl { s with heap := g } (fun _ => True) (SignAt y) (Fin { s with heap := g }) y.cps.size 0 [] l) : Ready prog w A E h₀ L m env elt [⟨.Name x px, iter, [], 0⟩] scope cl pos Fin (.str y t) s :=
  .pushed (fun _ => wpAny_pyIter_strU) (walks_text hh _ y t) hz (fun _ _ st => st.imp fun _ => And.left) (fun _ _ _ _ _ st e e' _ _ _ => text_stay st e e') ⟨_, Heap.get?_push_size _ rfl, rfl, rfl⟩ (fun _ hb => Nat.le_of_eq (List.mem_singleton.mp hb)) F N trivial hc hf hx R
theorem Ready.text_if {y : Str} {t : Tok} (hh : A.handled = none) (F : Fr h₀ L s.heap m) (N : News h₀ L s.heap l) (hz : y.cps.size ≤ sizeLine) (hc : ∀ z ∈ scope.names, z.2 ≠ .cell) (hf : scope.kind = .function) (hx : scope.names.lookup x = some .local)
    (R : ∀ g, CompRestT prog w A h₀ L m env ct elt x scope cl { s with heap := g } (fun _ => True) (SignAt y) (Fin { s with heap := g }) y.cps.size 0 [] l) : Ready prog w A E h₀ L m env elt [⟨.Name x px, iter, [ct], 0⟩] scope cl pos Fin (.str y t) s :=
  .pushed_if (fun _ => wpAny_pyIter_strU) (walks_text hh _ y t) hz (fun _ _ st => st.imp fun _ => And.left) (fun _ _ _ _ _ st e e' _ _ _ => text_stay st e e') ⟨_, Heap.get?_push_size _ rfl, rfl, rfl⟩ (fun _ hb => Nat.le_of_eq (List.mem_singleton.mp hb)) F N trivial hc hf hx R
/-- the ledger holds at `a` a sequence of the class `T` with the items `its` -/
noncomputable def SeqAt (T : String) (a : Addr) (its : Array Value) (l : List (Addr × Obj)) : Prop := ∃ o, (a, o) ∈ l ∧ o.cls = .type T ∧ ∃ n, o.data = .seq its n
noncomputable abbrev TupAt := SeqAt "tuple"
noncomputable abbrev LstAt := SeqAt "list"
theorem SeqAt.tuple {h : Heap} {a : Addr} {its : Array Value} (q : TupAt a its l) (N : News h₀ L h l) : h.IsTuple a its := q.imp fun _ z => z.imp_left fun hm => (N _ hm).1
theorem SeqAt.list {h : Heap} {a : Addr} {its : Array Value} (q : LstAt a its l) (N : News h₀ L h l) : h.IsList a its := q.imp fun _ z => z.imp_left fun hm => (N _ hm).1
theorem SeqAt.below {h : Heap} {T : String} {a : Addr} {its : Array Value} (q : SeqAt T a its l) (N : News h₀ L h l) : a < h.objs.size := q.elim fun _ z => Heap.lt_size (N _ z.1).1
/-- an iterator over a tuple of the ledger stands where its object stands -/
theorem tup_stay {I a : Addr} {its : Array Value} {i : Nat} {h h' : Heap} {o : Obj} {nw : List (Addr × Obj)} (st : h.IsTupleIter I a i ∧ h.IsTuple a its) (e : h.get? I = some o) (e' : h'.get? I = some o) (N : News h₀ L h' nw) (q : TupAt a its nw) : h'.IsTupleIter I a i ∧ h'.IsTuple a its :=
  ⟨st.1.at fun _ z => e'.trans (e.symm.trans z), q.tuple N⟩
theorem Ready.tup {a : Addr} {its : Array Value} (hh : A.handled = none) (F : Fr h₀ L s.heap m) (N : News h₀ L s.heap l) (q : TupAt a its l) (hz : its.size ≤ sizeLine) (hc : ∀ z ∈ scope.names, z.2 ≠ .cell) (hf : scope.kind = .function) (hx : scope.names.lookup x = some .local)
    (R : ∀ g, CompRest prog w A h₀ L m env elt x scope cl { s with heap := g } (TupAt a its) (fun i v => its[i]? = some v) (Fin { s with heap := g }) its.size 0 [] l) : Ready prog w A E h₀ L m env elt [⟨.Name x px, iter, [], 0⟩] scope cl pos Fin (.ref a) s :=
  .pushed (fun _ => wpAny_pyIter_tuple (q.tuple N)) (Walks.tuple hh _ a (Nat.ne_of_lt (q.below N)) its) hz (fun _ _ st => st.1.imp fun _ => And.left) (fun _ _ _ _ _ st e e' _ N q => tup_stay st e e' N q)
    ⟨⟨_, Heap.get?_push_size _ rfl, rfl, rfl⟩, (q.tuple N).at fun _ => Heap.get?_push_of_some _⟩ (List.forall_mem_cons.mpr ⟨Nat.le_refl _, fun _ hb => List.mem_singleton.mp hb ▸ Nat.le_of_lt (q.below N)⟩) F N q hc hf hx R
end
end
section
open PySem PySem.W PySem.Calls PyProof.Rows PySem.Spec PyProof.Rows.LCg PyProof.Rows.LCt
theorem off1_mem {c : Addr} : ∀ {l : List (Addr × Obj)}, Off1 c l → ∀ p ∈ l, p.1 ≠ c
  | [], _, p, hp => by cases hp
  | _ :: _, h, p, hp => by
    rcases List.mem_cons.mp hp with rfl | hp
    · exact h.1
    · exact off1_mem h.2 p hp
theorem off1_of {c : Addr} : ∀ {l : List (Addr × Obj)}, (∀ p ∈ l, p.1 ≠ c) → Off1 c l
  | [], _ => trivial
  | _ :: _, h => ⟨h _ List.mem_cons_self, off1_of fun q hq => h q (List.mem_cons_of_mem _ hq)⟩
/-- where a block's iterator `I`, list `D` and namespace `C` stand -/
structure Far (h₀ : Heap) (L I D C : Addr) : Prop where
  li : L ≠ I
  cl : C ≠ L
  dl : D ≠ L
  ic : I ≠ C
  id : I ≠ D
  dc : D ≠ C
  i0 : h₀.get? I = none
  c0 : h₀.get? C = none
  d0 : h₀.get? D = none
section
variable {prog : Program} {w : World} {A : Around} {E : Value → Shared → Prop} {s : Shared} {h₀ : Heap} {L : Addr} {m : Str → Option Value} {env : Env}
theorem new_at {h : Heap} {a : Addr} (F : Fr h₀ L h m) (ha : @LT.lt Nat _ L a) : h₀.get? a = none := Heap.get?_none_of_le (Nat.le_trans F.above (Nat.le_of_lt ha))
theorem far_of {h : Heap} {I D C : Addr} (F : Fr h₀ L h m) (hI : @LT.lt Nat _ I D) (li : L ≠ I) (i0 : h₀.get? I = none) (hL : @LT.lt Nat _ L D) (hD : @LT.lt Nat _ D C) : Far h₀ L I D C :=
  ⟨li, Ne.symm (Nat.ne_of_lt (Nat.lt_trans hL hD)), Ne.symm (Nat.ne_of_lt hL), Nat.ne_of_lt (Nat.lt_trans hI hD), Nat.ne_of_lt hI, Nat.ne_of_lt hD, i0, new_at F (Nat.lt_trans hL hD), new_at F hL⟩
/-- the turns of a comprehension whose target is a cell of its own -/
noncomputable def TurnsC (prog : Program) (w : World) (A : Around) (h₀ : Heap) (L : Addr) (m : Str → Option Value) (env : Env) (elt : PySem.Expr) (scope : Scope) (clf : Addr → List (Str × Addr)) (s : Shared) (P : Nat → Value → Prop)
    (Fin : List Value → List (Addr × Obj) → Prop) : Nat → Nat → List Value → List (Addr × Obj) → Prop
  | 0, _, ys, news => Fin ys news
  | k + 1, i, ys, news => ∀ v I oI C oC D c oc m₂ h tk (E' : Value → Shared → Prop), P i v → NsObj oC m₂ → oc.data = .cell (some v) → Fr h₀ L h m → News h₀ L h ((I, oI) :: (C, oC) :: (D, lst ys) :: (c, oc) :: news) → Off3 I C D ((c, oc) :: news) → ((@Ne Nat I C) ∧ (@Ne Nat I D) ∧ (@Ne Nat C D)) → Off1 c news →
      wpAny (model prog w) A (eval elt (compEnvC scope (clf c) C env)) (CompEnd h₀ L m { s with heap := h, toks := tk } I oI C oC D (lst ys) (fun _ => True) (fun y led' => ∃ news', (∀ p ∈ (c, oc) :: news', p ∈ led') ∧ Off1 c news' ∧ TurnsC prog w A h₀ L m env elt scope clf s P Fin k (i + 1) (ys ++ [y]) news')) E' { s with heap := h, toks := tk }
theorem lookup_relabel_cell {env : Env} {names : List (Str × NameKind)} {x : Str} (h : names.lookup x = some .cell) :
    (names.map fun (n, k) => if (k == NameKind.free && env.scope.kind == .function && env.kindOf n == some .cell) then (n, NameKind.cell) else (n, k)).lookup x = some .cell := by
  induction names with
  | nil => cases h
  | cons p r ih =>
    obtain ⟨n, k⟩ := p
    rw [List.map_cons]
    by_cases e : x = n
    · subst e
      obtain rfl : k = .cell := by simpa using h
      dsimp only
      split <;> simp
    · have hb : (x == n) = false := by simpa using e
      have g := ih (by simpa [List.lookup_cons, hb] using h)
      dsimp only
      split <;> simpa [List.lookup_cons, hb] using g
variable {elt iter : PySem.Expr} {gens : List Comprehension} {x : Str} {px : Pos} {scope : Scope} {cl : List (Str × Addr)} {pos : Pos} {RR : Value → Addr → Result → Shared → Prop}
/-- the list, the namespace and the one cell of the block are laid behind the heap -/
theorem inner_cell {it : Value} {clf : Addr → List (Str × Addr)} (pc : ∀ h, pushCells h scope.names = h.push { cls := .type "cell", data := .cell none }) (hclf : ∀ a, cellsFrom a scope.names cl = clf a)
    (h : ∀ D g, D = s.heap.objs.size → g = ((s.heap.push { cls := .type "list", data := .seq #[] }).push { cls := .type "dict", data := .dict #[] }).push { cls := .type "cell", data := .cell none } →
      codeAny (model prog w) A (.compStart (.ListComp elt gens scope pos) 0 it (.ref D) (compEnvC scope (clf (D + 1 + 1)) (D + 1) env)) (RR (.ref D) (D + 1)) { s with heap := g }) :
    Inner prog w A E env elt gens scope cl pos RR it s := by
  refine wpAny_newObj_type ?_
  unfold newFunctionEnv
  refine wpAny_bind (wpAny_alloc (wpAny_bind (wpAny_layCells _ (fun _ k _ => by cases k <;> rfl) _ _ _ _ ?_)))
  dsimp only
  rw [List.forIn_nil, pc, hclf]
  simp only [Heap.size_push]
  exact wpAny_bind (wpAny_pure (wpAny_pure (h _ _ rfl rfl)))
variable {clf : Addr → List (Str × Addr)} {I D C c : Addr} {n : Nat} {P : Nat → Value → Prop} {St : Nat → Heap → Prop} {Fin : List Value → List (Addr × Obj) → Prop}
/-- between two turns: `i` items are read, the list `D` holds `ys`, the cell stands in the ledger -/
noncomputable def CellInv (prog : Program) (w : World) (A : Around) (h₀ : Heap) (L : Addr) (m : Str → Option Value) (env : Env) (elt : PySem.Expr) (scope : Scope) (clf : Addr → List (Str × Addr)) (s : Shared) (P : Nat → Value → Prop) (St : Nat → Heap → Prop) (Fin : List Value → List (Addr × Obj) → Prop) (n : Nat) (I D C c : Addr) (k : Nat) (s' : Shared) : Prop :=
  ∃ g tk i ys mc ov oc l, s' = { s with heap := g, toks := tk } ∧ k + i = n + 1 ∧ i ≤ n ∧ ys.length = i ∧ St i g ∧ Fr h₀ L g m ∧ g.Ns C mc ∧ oc.data = .cell ov ∧ News h₀ L g ((D, lst ys) :: (c, oc) :: l) ∧ Off3 I C D ((c, oc) :: l) ∧ Off1 c l ∧ TurnsC prog w A h₀ L m env elt scope clf s P Fin (n - i) i ys l
theorem cell_loop {s' : Shared} (W : Walks prog w A I [I] [I] n P St) (hz : n ≤ sizeLine) (own : ∀ i h, St i h → ∃ o, h.get? I = some o) (stay : ∀ i (h h' : Heap) o, St i h → h.get? I = some o → h'.get? I = some o → St i h')
    (hf : scope.kind = .function) (hx : scope.names.lookup x = some .cell) (hc : (clf c).lookup x = some c) (far : Far h₀ L I D C) (G : Yields h₀ L m s RR Fin)
    (J₀ : CellInv prog w A h₀ L m env elt scope clf s P St Fin n I D C c (n + 1) s') :
    codeAny (model prog w) A (.compLoop (.ListComp elt [⟨.Name x px, iter, [], 0⟩] scope pos) 0 (.ref I) (.ref D) (compEnvC scope (clf c) C env)) (RR (.ref D) C) s' := by
  refine codeAny_compLoop_tests (CellInv prog w A h₀ L m env elt scope clf s P St Fin n I D C c) (fun k s' J => ?_) (n + 1) J₀
  refine Classical.byContradiction fun no => ?_
  obtain ⟨g, tk, i, ys, mc, ov, oc, l, rfl, hk, hi, hl, st, F, ns, hd, N, off, offc, R⟩ := J
  refine no ?_
  clear no
  have offI : ∀ p ∈ (D, lst ys) :: (c, oc) :: l, p.1 ≠ I := List.forall_mem_cons.mpr ⟨Ne.symm far.id, fun p hp => (off.mem p hp).1⟩
  have hI : C ∉ [I] := fun h => far.ic (List.mem_singleton.mp h).symm
  rcases Nat.lt_or_eq_of_le hi with lt | rfl
  · refine W.item i _ _ _ lt st fun v g₁ tk₁ hv st₁ k₁ => ?_
    have N₁ := news_but N k₁ offI
    have hcc := N₁ (c, oc) (.tail _ (.head _))
    refine wpAny_assign_Name (wpAny_storeName_cell hf (lookup_relabel_cell hx) hc ⟨oc, hcc.1, hd⟩ fun g₂ q₂ b₂ => wpAny_tests_nil ?_)
    rw [if_pos rfl]
    refine Classical.byContradiction fun no => ?_
    obtain ⟨oc₂, e₂, hd₂⟩ := q₂
    obtain ⟨oI, eI⟩ := own _ _ st₁
    obtain ⟨oC, eC, hC⟩ := ns_obj ((ns.at' fun o => k₁ C o hI).sameBut b₂ off.1.2.1.symm)
    refine no ?_
    clear no
    have eI₂ := b₂.extBut _ _ off.1.1.symm eI
    have F₂ := (fr_but F k₁ far.li far.i0).change b₂ hcc.2.1 hcc.2.2
    have N₂ := N₁.setSecond (Ne.symm off.1.2.2) (off1_mem offc) b₂ e₂
    have e : n - i = (n - (i + 1)) + 1 := by omega
    rw [e] at R
    refine wpAny_mono (R v I oI C oC D c oc₂ _ g₂ _ _ hv hC hd₂ F₂ (List.forall_mem_cons.mpr ⟨⟨eI₂, far.li.symm, far.i0⟩, List.forall_mem_cons.mpr ⟨⟨eC, far.cl, far.c0⟩, N₂⟩⟩) off ⟨far.ic, far.id, far.dc.symm⟩ offc) (fun y s₃ h₃ => ?_) fun _ _ => id
    refine Classical.byContradiction fun no => ?_
    obtain ⟨g₃, tk₃, led, rfl, F₃, N₃, off₃, _, l₃, sub, offc₃, R₃⟩ := h₃
    refine no ?_
    clear no
    have N₄ : News h₀ L g₃ ((D, lst ys) :: (c, oc₂) :: l₃) := fun p hp => N₃ p (.tail _ (.tail _ ((List.mem_cons.mp hp).elim (fun q => q ▸ .head _) fun q => .tail _ (sub p q))))
    have offl : ∀ p ∈ (c, oc₂) :: l₃, p.1 ≠ I ∧ p.1 ≠ C ∧ p.1 ≠ D := fun p hp => off₃.mem p (sub p hp)
    refine append_at (N₄ _ (.head _)).1 (fun g₄ b₄ e₄ => ?_) (by show ys.toArray.size ≤ sizeLine; rw [List.size_toArray]; omega)
    exact ⟨n - i, by omega, g₄, tk₃, i + 1, ys ++ [y], _, _, oc₂, l₃, rfl, by omega, lt, by rw [List.length_append, hl]; rfl, stay _ _ _ _ (stay _ _ _ _ st₁ eI eI₂) eI₂ (b₄.extBut _ _ far.id (N₃ _ (.head _)).1), F₃.change b₄ far.dl far.d0,
      (hC.ns (N₃ _ (.tail _ (.head _))).1).sameBut b₄ far.dc.symm, hd₂, N₄.setHead (fun p hp => (offl p hp).2.2) b₄ (e₄.trans (congrArg some (lst_snoc ys y))), Off3.of offl, offc₃, R₃⟩
  · rw [Nat.sub_self] at R
    refine W.done _ _ _ st fun g₁ tk₁ k₁ => ?_
    have N₁ := news_but N k₁ offI
    exact G D C g₁ tk₁ mc ys l (fr_but F k₁ far.li far.i0) (fun p hp => N₁ p ((List.mem_cons.mp hp).elim (fun q => q ▸ .head _) fun q => .tail _ (.tail _ q))) off.2.one (ns.at' fun o => k₁ C o hI) far.c0 far.cl far.dc.symm (fun p hp => (off.2.mem p hp).2.1) R
/-- a range read by a cell of the block's own -/
theorem Ready.range_cell {r : Addr} {a b : Int} {t u v : Tok} {l : List (Addr × Obj)} {Fin : Shared → List Value → List (Addr × Obj) → Prop} (clf : Addr → List (Str × Addr)) (hh : A.handled = none) (F : Fr h₀ L s.heap m) (N : News h₀ L s.heap l)
    (hr : IsRange s.heap r a b 1 t u v) (hs : Builtin.Range.small a b 1 = true) (hn : Builtin.Range.rangeSize a b 1 = ((n : Nat) : Int)) (hz : n ≤ sizeLine) (pc : ∀ h, pushCells h scope.names = h.push { cls := .type "cell", data := .cell none }) (hclf : ∀ a, cellsFrom a scope.names cl = clf a)
    (hf : scope.kind = .function) (hx : scope.names.lookup x = some .cell) (hc : ∀ a, (clf a).lookup x = some a)
    (R : ∀ g, TurnsC prog w A h₀ L m env elt scope clf { s with heap := g } (fun i v => ∃ t, v = .int (a + (i : Int)) t) (Fin { s with heap := g }) n 0 [] l) : Ready prog w A E h₀ L m env elt [⟨.Name x px, iter, [], 0⟩] scope cl pos Fin (.ref r) s := fun RR G => by
  refine wpAny_pyIter_range hr hs ?_
  rw [hn]
  obtain ⟨k, F₁, N₁, hL, h0, out, lt⟩ := laid_iter F N { cls := .type "range_iterator", data := .fields #[rawInt a, rawInt (n : Int), rawInt 1] }
  refine inner_cell pc hclf fun D g hD hg => ?_
  have kg : ∀ b o, (s.heap.push { cls := .type "range_iterator", data := .fields #[rawInt a, rawInt (n : Int), rawInt 1] }).get? b = some o → g.get? b = some o := fun b o e => hg ▸ Heap.get?_push_of_some _ (Heap.get?_push_of_some _ (Heap.get?_push_of_some _ e))
  have lI : @LT.lt Nat _ s.heap.objs.size D := hD ▸ lt
  have far : Far h₀ L s.heap.objs.size D (D + 1) := far_of F₁ lI hL h0 (Nat.lt_trans F.ns.lt lI) (Nat.lt_succ_self D)
  have lc : @LT.lt Nat _ D (D + 1 + 1) := Nat.lt_succ_of_lt (Nat.lt_succ_self D)
  have lN : ∀ p ∈ l, @LT.lt Nat _ p.1 D := fun p hp => hD ▸ Heap.lt_size (N₁ p hp).1
  have gD : g.get? D = some (lst []) := by rw [hg, hD]; exact Heap.get?_push_of_some _ (Heap.get?_push_of_some _ (Heap.get?_push_size _ rfl))
  have gC : g.Ns (D + 1) fun _ => none := by
    have z := Heap.Ns.new ((s.heap.push { cls := .type "range_iterator", data := .fields #[rawInt a, rawInt (n : Int), rawInt 1] }).push { cls := .type "list", data := .seq #[] }) (.type "dict")
    rw [Heap.size_push, ← hD] at z
    exact z.keeps fun b o e => hg ▸ Heap.get?_push_of_some _ e
  have gc : g.get? (D + 1 + 1) = some { cls := .type "cell", data := .cell none } := by
    rw [hg, hD, ← Heap.size_push, ← Heap.size_push]; exact Heap.get?_push_size _ rfl
  have st : IsRangeIter g s.heap.objs.size (a + ((0 : Nat) : Int) * 1) ((n : Int) - ((0 : Nat) : Int)) 1 := kg _ _ (by simpa using Heap.get?_push_size _ rfl)
  have W := range_walks (prog := prog) (w := w) (I := s.heap.objs.size) hh a n
  have loop := cell_loop (px := px) (iter := iter) (pos := pos) (s := { s with heap := s.heap.push { cls := .type "range_iterator", data := .fields #[rawInt a, rawInt (n : Int), rawInt 1] } }) W hz (fun _ _ q => ⟨_, q⟩) (fun _ _ _ _ q e e' => e'.trans (e.symm.trans q)) hf hx (hc _) far (G _)
    ⟨g, s.toks, 0, [], _, none, _, l, rfl, rfl, Nat.zero_le _, rfl, st, F₁.keeps kg, gC, rfl, List.forall_mem_cons.mpr ⟨⟨gD, far.dl, far.d0⟩, List.forall_mem_cons.mpr ⟨⟨gc, Ne.symm (Nat.ne_of_lt (Nat.lt_trans (Nat.lt_trans F.ns.lt lI) lc)), new_at F (Nat.lt_trans (Nat.lt_trans F.ns.lt lI) lc)⟩, N₁.keeps kg⟩⟩,
      ⟨⟨Ne.symm (Nat.ne_of_lt (Nat.lt_trans lI lc)), Nat.succ_ne_self _, Ne.symm (Nat.ne_of_lt lc)⟩, Off3.of fun p hp => ⟨out p hp, Nat.ne_of_lt (Nat.lt_succ_of_lt (lN p hp)), Nat.ne_of_lt (lN p hp)⟩⟩, off1_of fun p hp => Nat.ne_of_lt (Nat.lt_trans (lN p hp) lc), R _⟩
  exact codeAny_compStart_list loop (W.self 0 _ _ _ st loop)
end
end
section
open PySem PySem.W PySem.Calls PyProof.Rows PySem.Spec PyProof.Rows.LCg PyProof.Rows.LCt
noncomputable def All2 {α : Type} (V : α → Value → Prop) : List α → List Value → Prop
  | [], [] => True
  | a :: xs, v :: vs => V a v ∧ All2 V xs vs
  | _, _ => False
theorem e_cons {α : Type} {F : α → Tok → Value} {a : α} {xs : List α} : ∀ {ys : List Value}, All2 (fun n v => ∃ t, v = F n t) (a :: xs) ys → ∃ t zs, ys = F a t :: zs ∧ All2 (fun n v => ∃ t, v = F n t) xs zs
  | [], h => h.elim
  | _ :: zs, ⟨⟨t, e⟩, k⟩ => ⟨t, zs, by rw [e], k⟩
theorem e_nil {α : Type} {V : α → Value → Prop} : ∀ {ys : List Value}, All2 V [] ys → ys = []
  | [], _ => rfl
  | _ :: _, h => h.elim
theorem all2_e3 {α : Type} {F : α → Tok → Value} {a b c : α} {ys : List Value} (hh : All2 (fun n v => ∃ t, v = F n t) [a, b, c] ys) : ∃ t0 t1 t2, ys = [F a t0, F b t1, F c t2] := by
  refine Classical.byContradiction fun hG => ?_
  obtain ⟨t0, z0, e0, k0⟩ := e_cons hh
  obtain ⟨t1, z1, e1, k1⟩ := e_cons k0
  obtain ⟨t2, z2, e2, k2⟩ := e_cons k1
  exact hG ⟨t0, t1, t2, by rw [e0, e1, e2, e_nil k2]⟩
theorem all2_e8 {α : Type} {F : α → Tok → Value} {a b c d e f g h : α} {ys : List Value} (hh : All2 (fun n v => ∃ t, v = F n t) [a, b, c, d, e, f, g, h] ys) : ∃ t0 t1 t2 t3 t4 t5 t6 t7, ys = [F a t0, F b t1, F c t2, F d t3, F e t4, F f t5, F g t6, F h t7] := by
  refine Classical.byContradiction fun hG => ?_
  obtain ⟨t0, z0, e0, k0⟩ := e_cons hh
  obtain ⟨t1, z1, e1, k1⟩ := e_cons k0
  obtain ⟨t2, z2, e2, k2⟩ := e_cons k1
  obtain ⟨t3, z3, e3, k3⟩ := e_cons k2
  obtain ⟨t4, z4, e4, k4⟩ := e_cons k3
  obtain ⟨t5, z5, e5, k5⟩ := e_cons k4
  obtain ⟨t6, z6, e6, k6⟩ := e_cons k5
  obtain ⟨t7, z7, e7, k7⟩ := e_cons k6
  exact hG ⟨t0, t1, t2, t3, t4, t5, t6, t7, by rw [e0, e1, e2, e3, e4, e5, e6, e7, e_nil k7]⟩
theorem all2_e9 {α : Type} {F : α → Tok → Value} {a b c d e f g h i : α} {ys : List Value} (hh : All2 (fun n v => ∃ t, v = F n t) [a, b, c, d, e, f, g, h, i] ys) : ∃ t0 t1 t2 t3 t4 t5 t6 t7 t8, ys = [F a t0, F b t1, F c t2, F d t3, F e t4, F f t5, F g t6, F h t7, F i t8] := by
  refine Classical.byContradiction fun hG => ?_
  obtain ⟨t0, z0, e0, k⟩ := e_cons hh
  obtain ⟨t1, t2, t3, t4, t5, t6, t7, t8, e1⟩ := all2_e8 k
  exact hG ⟨t0, t1, t2, t3, t4, t5, t6, t7, t8, by rw [e0, e1]⟩
theorem All2.snoc {α : Type} {V : α → Value → Prop} : ∀ {xs : List α} {vs : List Value} {a : α} {v : Value}, All2 V xs vs → V a v → All2 V (xs ++ [a]) (vs ++ [v])
  | [], [], _, _, _, hv => ⟨hv, trivial⟩
  | _ :: _, _ :: _, _, _, h, hv => ⟨h.1, h.2.snoc hv⟩
  | [], _ :: _, _, _, h, _ => h.elim
  | _ :: _, [], _, _, h, _ => h.elim
theorem All2.len {α : Type} {V : α → Value → Prop} : ∀ {xs : List α} {vs : List Value}, All2 V xs vs → vs.length = xs.length
  | [], [], _ => rfl
  | _ :: _, _ :: _, h => congrArg Nat.succ h.2.len
  | [], _ :: _, h => h.elim
  | _ :: _, [], h => h.elim
theorem All2.at {α : Type} {V : α → Value → Prop} : ∀ {xs : List α} {vs : List Value} {i : Nat} {v : Value}, All2 V xs vs → vs[i]? = some v → ∃ a, xs[i]? = some a ∧ V a v
  | [], [], _, _, _, h => by simp at h
  | a :: _, _ :: _, 0, _, h, e => by simp at e; subst e; exact ⟨a, rfl, h.1⟩
  | _ :: _, _ :: _, i + 1, _, h, e => by
    rw [List.getElem?_cons_succ] at e ⊢
    exact h.2.at e
  | [], _ :: _, _, _, h, _ => h.elim
  | _ :: _, [], _, _, h, _ => h.elim
noncomputable def EndR (r : Value → Prop) (y : Value) : Prop := r y
theorem EndR.mk {r : Value → Prop} {y : Value} (h : r y) : EndR r y := h
noncomputable def EndG (led : List (Addr × Obj)) (r : Value → Prop) (y : Value) (led' : List (Addr × Obj)) : Prop := (∀ p ∈ led, p ∈ led') ∧ r y
section
variable {prog : Program} {w : World} {A : Around} {E : Value → Shared → Prop} {s : Shared} {h₀ : Heap} {L : Addr} {m : Str → Option Value} {env : Env}
theorem CompEnd.cut {s₁ : Shared} {I C D : Addr} {oI oC oD : Obj} {S : List (Addr × Obj) → Prop} {r : Value → Prop} {led : List (Addr × Obj)} {q : Value → List (Addr × Obj) → Prop} {y : Value} {s₂ : Shared} (h : CompEnd h₀ L m s₁ I oI C oC D oD S (fun y led' => EndG led r y led') y s₂) (hS : S led) (hq : r y → q y led) : CompEnd h₀ L m s₁ I oI C oC D oD S q y s₂ := by
  refine Classical.byContradiction fun hG9 => ?_
  obtain ⟨h', tk, n, e, F, N, o, _, sub, hr⟩ := h
  refine hG9 ?_
  clear hG9
  refine ⟨h', tk, led, e, F, fun p hp => N p ?_, Off3.of fun p hp => o.mem p (sub p hp), hS, hq hr⟩
  simp only [List.mem_cons] at hp ⊢
  rcases hp with hp | hp | hp | hp
  · exact .inl hp
  · exact .inr (.inl hp)
  · exact .inr (.inr (.inl hp))
  · exact .inr (.inr (.inr (sub p hp)))
theorem CompEnd.imp {s₁ s₂ : Shared} {I C D : Addr} {oI oC oD : Obj} {S : List (Addr × Obj) → Prop} {r q : Value → Prop} {l : List (Addr × Obj)} {y : Value} (h : CompEnd h₀ L m s₁ I oI C oC D oD S (EndG l r) y s₂) (i : r y → q y) : CompEnd h₀ L m s₁ I oI C oC D oD S (EndG l q) y s₂ :=
  h.imp fun _ => Exists.imp fun _ => Exists.imp fun _ => And.imp_right <| And.imp_right <| And.imp_right <| And.imp_right <| And.imp_right <| And.imp_right i
theorem hP_list {α : Type} {V : α → Value → Prop} {xs : List α} {vs : List Value} (h : All2 V xs vs) : ∀ (i : Nat) v, i < xs.length → vs.toArray[i]? = some v → ∃ a, xs[i]? = some a ∧ V a v := fun i v _ e => h.at (by simpa using e)
theorem hP_text {y : Str} : ∀ (i : Nat) v, i < y.cps.toList.length → SignAt y i v → ∃ a : Nat, y.cps.toList[i]? = some a ∧ ∃ t, v = .str ⟨#[a]⟩ t := by
  intro i v _ hJ0
  refine Classical.byContradiction fun hG9 => ?_
  obtain ⟨c, u, hc, rfl⟩ := hJ0
  refine hG9 ?_
  clear hG9
  exact ⟨c, by rw [Array.getElem?_toList]; exact hc, u, rfl⟩
theorem hP_range {a : Int} {n : Nat} : ∀ (i : Nat) (v : Value), i < (List.range n).length → (∃ t, v = .int (a + (i : Int)) t) → ∃ k : Nat, (List.range n)[i]? = some k ∧ ∃ t, v = .int (a + (k : Int)) t := by
  rintro i v hi ⟨t, rfl⟩
  rw [List.length_range] at hi
  exact ⟨i, by rw [List.getElem?_range hi], t, rfl⟩
theorem CompEnd_G {s₁ : Shared} {I C D : Addr} {oI oC oD : Obj} {S : List (Addr × Obj) → Prop} {r : Value → Prop} {led all : List (Addr × Obj)} {y : Value} {h' : Heap} {tk : Nat} (F : Fr h₀ L h' m) (N : News h₀ L h' all) (sub : ∀ p ∈ (I, oI) :: (C, oC) :: (D, oD) :: led, p ∈ all) (off : Off3 I C D led) (hS : S led) (hr : EndR r y) :
    CompEnd h₀ L m s₁ I oI C oC D oD S (fun y led' => EndG led r y led') y { s₁ with heap := h', toks := tk } := ⟨h', tk, led, rfl, F, fun p hp => N p (sub p hp), off, hS, fun _ h => h, hr⟩
section
variable {ct elt : PySem.Expr} {x : Str} {scope : Scope} {cl : List (Str × Addr)} {Fin : List Value → List (Addr × Obj) → Prop} {S : List (Addr × Obj) → Prop} {P : Nat → Value → Prop} {led : List (Addr × Obj)} {n : Nat}
/-- a comprehension by a law that holds between its turns -/
theorem CompRest.inv (J : Nat → List Value → Prop) (hS : S led)
    (turn : ∀ i ys v I oI C oC D m₂ h tk (E' : Value → Shared → Prop), i < n → J i ys → P i v → NsObj oC m₂ → m₂ x = some v → Fr h₀ L h m → News h₀ L h ((I, oI) :: (C, oC) :: (D, lst ys) :: led) → Off3 I C D led → ((@Ne Nat I C) ∧ (@Ne Nat I D) ∧ (@Ne Nat C D)) →
      wpAny (model prog w) A (eval elt (compEnvC scope cl C env)) (CompEnd h₀ L m { s with heap := h, toks := tk } I oI C oC D (lst ys) S fun y => EndG led (fun y => J (i + 1) (ys ++ [y])) y) E' { s with heap := h, toks := tk })
    (fin : ∀ ys, J n ys → Fin ys led) : ∀ k i ys, i + k = n → J i ys → CompRest prog w A h₀ L m env elt x scope cl s S P Fin k i ys led
  | 0, _, ys, e, j => fin ys (e ▸ j)
  | k + 1, i, ys, e, j => fun v I oI C oC D m₂ h tk E' p hC hx F N off ne =>
    wpAny_mono (turn i ys v I oI C oC D m₂ h tk E' (by omega) j p hC hx F N off ne) (fun _ _ q => CompEnd.cut q hS (CompRest.inv J hS turn fin k (i + 1) _ (by omega))) fun _ _ => id
/-- the same with a test: a turn that it bars leaves the list -/
theorem CompRestT.inv (J : Nat → List Value → Prop) (hS : S led)
    (turn : ∀ i ys v I oI C oC D m₂ h tk (E' : Value → Shared → Prop), i < n → J i ys → P i v → NsObj oC m₂ → m₂ x = some v → Fr h₀ L h m → News h₀ L h ((I, oI) :: (C, oC) :: (D, lst ys) :: led) → Off3 I C D led → ((@Ne Nat I C) ∧ (@Ne Nat I D) ∧ (@Ne Nat C D)) →
      wpAny (model prog w) A (isTrue ct (compEnvC scope cl C env) (eval ct (compEnvC scope cl C env))) (fun ok s₁ => (ok = true → wpAny (model prog w) A (eval elt (compEnvC scope cl C env)) (CompEnd h₀ L m { s with heap := h, toks := tk } I oI C oC D (lst ys) S fun y => EndG led (fun y => J (i + 1) (ys ++ [y])) y) E' s₁) ∧
        (ok = false → CompEnd h₀ L m { s with heap := h, toks := tk } I oI C oC D (lst ys) S (EndG led fun _ => J (i + 1) ys) .none s₁)) E' { s with heap := h, toks := tk })
    (fin : ∀ ys, J n ys → Fin ys led) : ∀ k i ys, i + k = n → J i ys → CompRestT prog w A h₀ L m env ct elt x scope cl s S P Fin k i ys led
  | 0, _, ys, e, j => fin ys (e ▸ j)
  | k + 1, i, ys, e, j => fun v I oI C oC D m₂ h tk E' p hC hx F N off ne => by
    refine wpAny_mono (turn i ys v I oI C oC D m₂ h tk E' (by omega) j p hC hx F N off ne) (fun ok s₁ q => ?_) fun _ _ => id
    have next := CompRestT.inv J hS turn fin k (i + 1)
    rcases ok with _ | _
    · rw [if_neg Bool.false_ne_true]
      exact CompEnd.cut (q.2 rfl) hS (next _ (by omega))
    · exact wpAny_mono (q.1 rfl) (fun _ _ r => CompEnd.cut r hS (next _ (by omega))) fun _ _ => id
/-- the same where the target is a cell -/
theorem TurnsC.inv {clf : Addr → List (Str × Addr)} (J : Nat → List Value → Prop)
    (turn : ∀ i ys v I oI C oC D c oc m₂ h tk (E' : Value → Shared → Prop), i < n → J i ys → P i v → NsObj oC m₂ → oc.data = .cell (some v) → Fr h₀ L h m → News h₀ L h ((I, oI) :: (C, oC) :: (D, lst ys) :: (c, oc) :: led) → Off3 I C D ((c, oc) :: led) → ((@Ne Nat I C) ∧ (@Ne Nat I D) ∧ (@Ne Nat C D)) → Off1 c led →
      wpAny (model prog w) A (eval elt (compEnvC scope (clf c) C env)) (CompEnd h₀ L m { s with heap := h, toks := tk } I oI C oC D (lst ys) (fun _ => True) fun y => EndG ((c, oc) :: led) (fun y => J (i + 1) (ys ++ [y])) y) E' { s with heap := h, toks := tk })
    (fin : ∀ ys, J n ys → Fin ys led) : ∀ k i ys, i + k = n → J i ys → TurnsC prog w A h₀ L m env elt scope clf s P Fin k i ys led
  | 0, _, ys, e, j => fin ys (e ▸ j)
  | k + 1, i, ys, e, j => fun v I oI C oC D c oc m₂ h tk E' p hC hx F N off ne offc =>
    wpAny_mono (turn i ys v I oI C oC D c oc m₂ h tk E' (by omega) j p hC hx F N off ne offc) (fun _ _ q => CompEnd.cut q trivial fun j' => ⟨led, fun _ => id, offc, TurnsC.inv J turn fin k (i + 1) _ (by omega) j'⟩) fun _ _ => id
theorem rest_G {α : Type} (xs : List α) (hn : n = xs.length) (V G : α → Value → Prop) (hP : ∀ (i : Nat) v, i < xs.length → P i v → ∃ a, xs[i]? = some a ∧ V a v) (hS : S led)
    (turn : ∀ a, a ∈ xs → ∀ v I oI C oC D m₂ ys h tk (E' : Value → Shared → Prop), V a v → NsObj oC m₂ → m₂ x = some v → Fr h₀ L h m → News h₀ L h ((I, oI) :: (C, oC) :: (D, lst ys) :: led) → Off3 I C D led → ((@Ne Nat I C) ∧ (@Ne Nat I D) ∧ (@Ne Nat C D)) →
      wpAny (model prog w) A (eval elt (compEnvC scope cl C env)) (CompEnd h₀ L m { s with heap := h, toks := tk } I oI C oC D (lst ys) S (fun y led' => EndG led (G a) y led')) E' { s with heap := h, toks := tk })
    (fin : ∀ ys, All2 G xs ys → Fin ys led) : CompRest prog w A h₀ L m env elt x scope cl s S P Fin n 0 [] led := by
  subst hn
  refine CompRest.inv (fun i ys => All2 G (xs.take i) ys) hS (fun i ys v I oI C oC D m₂ h tk E' hi j p hC hx F N off ne => ?_) (fun ys j => fin ys (by rwa [List.take_length] at j)) _ 0 [] (Nat.zero_add _) trivial
  obtain ⟨a, ha, hV⟩ := hP i v hi p
  exact wpAny_mono (turn a (List.mem_of_getElem? ha) v I oI C oC D m₂ ys h tk E' hV hC hx F N off ne) (fun _ _ q => CompEnd.imp q fun r => by rw [List.take_add_one, ha]; exact j.snoc r) fun _ _ => id
theorem turns_G {α : Type} {clf : Addr → List (Str × Addr)} (xs : List α) (hn : n = xs.length) (V G : α → Value → Prop) (hP : ∀ (i : Nat) v, i < xs.length → P i v → ∃ a, xs[i]? = some a ∧ V a v)
    (turn : ∀ a, a ∈ xs → ∀ v I oI C oC D c oc m₂ ys h tk (E' : Value → Shared → Prop), V a v → NsObj oC m₂ → oc.data = .cell (some v) → Fr h₀ L h m → News h₀ L h ((I, oI) :: (C, oC) :: (D, lst ys) :: (c, oc) :: led) → Off3 I C D ((c, oc) :: led) → ((@Ne Nat I C) ∧ (@Ne Nat I D) ∧ (@Ne Nat C D)) → Off1 c led →
      wpAny (model prog w) A (eval elt (compEnvC scope (clf c) C env)) (CompEnd h₀ L m { s with heap := h, toks := tk } I oI C oC D (lst ys) (fun _ => True) (fun y led' => EndG ((c, oc) :: led) (G a) y led')) E' { s with heap := h, toks := tk })
    (fin : ∀ ys, All2 G xs ys → Fin ys led) : TurnsC prog w A h₀ L m env elt scope clf s P Fin n 0 [] led := by
  subst hn
  refine TurnsC.inv (fun i ys => All2 G (xs.take i) ys) (fun i ys v I oI C oC D c oc m₂ h tk E' hi j p hC hx F N off ne offc => ?_) (fun ys j => fin ys (by rwa [List.take_length] at j)) _ 0 [] (Nat.zero_add _) trivial
  obtain ⟨a, ha, hV⟩ := hP i v hi p
  exact wpAny_mono (turn a (List.mem_of_getElem? ha) v I oI C oC D c oc m₂ ys h tk E' hV hC hx F N off ne offc) (fun _ _ q => CompEnd.imp q fun r => by rw [List.take_add_one, ha]; exact j.snoc r) fun _ _ => id
theorem rest_GT {y : Str} (p : Nat → Bool) (g : Nat → Str)
    (turn : ∀ c t I oI C oC D m₂ ys h tk (E' : Value → Shared → Prop), NsObj oC m₂ → m₂ x = some (.str ⟨#[c]⟩ t) → Fr h₀ L h m → News h₀ L h ((I, oI) :: (C, oC) :: (D, lst ys) :: led) → Off3 I C D led → ((@Ne Nat I C) ∧ (@Ne Nat I D) ∧ (@Ne Nat C D)) →
      wpAny (model prog w) A (isTrue ct (compEnvC scope cl C env) (eval ct (compEnvC scope cl C env))) (fun ok s' => if ok = true then
        wpAny (model prog w) A (eval elt (compEnvC scope cl C env)) (CompEnd h₀ L m { s with heap := h, toks := tk } I oI C oC D (lst ys) (fun _ => True) (fun v led' => EndG led (fun v => p c = true ∧ ∃ u, v = .str (g c) u) v led')) E' s'
        else CompEnd h₀ L m { s with heap := h, toks := tk } I oI C oC D (lst ys) (fun _ => True) (fun v led' => EndG led (fun _ => p c = false) v led') Value.none s') E' { s with heap := h, toks := tk })
    (fin : ∀ ys, StrsAre ys ((y.cps.toList.filter p).map g) → Fin ys led) : CompRestT prog w A h₀ L m env ct elt x scope cl s (fun _ => True) (SignAt y) Fin y.cps.size 0 [] led := by
  refine CompRestT.inv (fun i ys => StrsAre ys (((y.cps.toList.take i).filter p).map g)) trivial (fun i ys v I oI C oC D m₂ h tk E' hi j q hC hx F N off ne => ?_) (fun ys j => fin ys (by rwa [← Array.length_toList, List.take_length] at j)) _ 0 [] (Nat.zero_add _) .nil
  obtain ⟨c, hc, t, rfl⟩ := hP_text i v (by rw [Array.length_toList]; exact hi) q
  have hf : (y.cps.toList.take (i + 1)).filter p = (y.cps.toList.take i).filter p ++ [c].filter p := by rw [List.take_add_one, hc, List.filter_append]; rfl
  refine wpAny_mono (turn c t I oI C oC D m₂ ys h tk E' hC hx F N off ne) (fun ok s₁ r => ⟨fun e => ?_, fun e => ?_⟩) fun _ _ => id
  · rw [if_pos e] at r
    exact wpAny_mono r (fun _ _ z => CompEnd.imp z fun ⟨hp, u, hv⟩ => by rw [hf, List.filter_cons_of_pos hp, List.map_append, hv]; exact PySem.W.KStt.strs_snoc j) fun _ _ => id
  · rw [if_neg (by rw [e]; exact Bool.false_ne_true)] at r
    exact CompEnd.imp r fun hp => by rw [hf, List.filter_cons_of_neg (by rw [hp]; exact Bool.false_ne_true), List.filter_nil, List.append_nil]; exact j
end
end
end
section
open PySem PySem.W PySem.Calls PyProof.Rows PySem.Spec PySem.Flt
section
variable {prog : Program} {w : World} {A : Around} {E : Value → Shared → Prop} {s : Shared}
/-- max and min read a tuple by an iterator of its own: the item at the best place comes out, and the heap keeps what it had -/
theorem over_tuple {Q : Value → Shared → Prop} {T : Addr} {its : Array Value} {op : CmpOp} {bt : Nat → Nat → Bool} (hh : A.handled = none) (hT : s.heap.IsTuple T its) (n0 : 0 < its.size) (cmp : CmpOf prog w A.in1 op (fun i v => its[i]? = some v) bt)
    (h : ∀ v g tk, its[argBest bt (its.size - 1)]? = some v → (∀ d o, s.heap.get? d = some o → g.get? d = some o) → Q v { s with heap := g, toks := tk }) :
    wpAny (model prog w) A.in1 (pyIter (.ref T)) (fun it s₁ => ∃ I fp wr n P St bt, it = .ref I ∧ Walks prog w A.in1 I fp wr n P St ∧ St 0 s₁.heap ∧ (∀ b ∈ fp, b < s₁.heap.objs.size) ∧ 0 < n ∧ CmpOf prog w A.in1 op P bt ∧
      ∀ v g tk, P (argBest bt (n - 1)) v → (∀ b o, b ∉ wr → s₁.heap.get? b = some o → g.get? b = some o) → Q v { s₁ with heap := g, toks := tk }) E s := by
  have lt : T < s.heap.objs.size := hT.elim fun _ z => Heap.lt_size z.1
  refine wpAny_pyIter_tuple hT ⟨s.heap.objs.size, _, _, its.size, _, _, bt, rfl, Walks.tuple (A := A.in1) hh _ T (Nat.ne_of_lt lt) its, ⟨⟨_, Heap.get?_push_size _ rfl, rfl, rfl⟩, hT.push _⟩, ?_, n0, cmp, fun v g tk hv k => h v g tk hv fun d o e => k d o (fun q => Nat.ne_of_lt (Heap.lt_size e) (List.mem_singleton.mp q)) (Heap.get?_push_of_some _ e)⟩
  show ∀ b ∈ [s.heap.objs.size, T], b < (s.heap.push _).objs.size
  rw [Heap.size_push]
  exact List.forall_mem_cons.mpr ⟨Nat.lt_succ_self _, fun b hb => List.mem_singleton.mp hb ▸ Nat.lt_succ_of_lt lt⟩
theorem max3_num {Q : Value → Shared → Prop} {a b c : Value} (hh : A.handled = none) (ha : NumV a) (hb : NumV b) (hc : NumV c)
    (h : ∀ g tk, (∀ d o, s.heap.get? d = some o → g.get? d = some o) → Q (if ltV a b then (if ltV b c then c else b) else (if ltV a c then c else a)) { s with heap := g, toks := tk }) : wpAny (model prog w) A (call (.builtin "max") [a, b, c]) Q E s :=
  call_max_three (over_tuple (its := #[a, b, c]) hh ⟨_, Heap.get?_push_size _ rfl, rfl, 0, rfl⟩ (Nat.succ_pos 2) (cmpOf_gt #[a, b, c] (by simp [ha, hb, hc])) fun v g tk hv k => by
    have e : v = if ltV a b then (if ltV b c then c else b) else (if ltV a c then c else a) := by
      cases h1 : ltV a b <;> cases h2 : ltV b c <;> cases h3 : ltV a c <;> simp [argBest, h1, h2, h3] at hv <;> simp [hv]
    exact e ▸ h g tk fun d o z => k d o (Heap.get?_push_of_some _ z))
theorem min3_num {Q : Value → Shared → Prop} {a b c : Value} (hh : A.handled = none) (ha : NumV a) (hb : NumV b) (hc : NumV c)
    (h : ∀ g tk, (∀ d o, s.heap.get? d = some o → g.get? d = some o) → Q (if ltV b a then (if ltV c b then c else b) else (if ltV c a then c else a)) { s with heap := g, toks := tk }) : wpAny (model prog w) A (call (.builtin "min") [a, b, c]) Q E s :=
  call_min_three (over_tuple (its := #[a, b, c]) hh ⟨_, Heap.get?_push_size _ rfl, rfl, 0, rfl⟩ (Nat.succ_pos 2) (cmpOf_lt #[a, b, c] (by simp [ha, hb, hc])) fun v g tk hv k => by
    have e : v = if ltV b a then (if ltV c b then c else b) else (if ltV c a then c else a) := by
      cases h1 : ltV b a <;> cases h2 : ltV c b <;> cases h3 : ltV c a <;> simp [argBest, h1, h2, h3] at hv <;> simp [hv]
    exact e ▸ h g tk fun d o z => k d o (Heap.get?_push_of_some _ z))
end
/-- k eighths -/
noncomputable def LF (k : Nat) : UInt64 := Float64.ofFrac false k 8
theorem lf_all : ((List.range 9).all fun i => (List.range 9).all fun j => ((Float64.cmp (LF i) (LF j) == some .lt) == decide (i < j)) && ((Float64.cmp (LF i) (LF j) == some .eq) == decide (i = j)) &&
    (Float64.isZero (Float64.sub (LF i) (LF j)) == decide (i = j)) && (Float64.isZero (Float64.add (LF i) (LF j)) == decide (i + j = 0)) && (Float64.isZero (LF i) == decide (i = 0))) = true := by decide +kernel
theorem lf_lt {i j : Nat} (hi : i ≤ 8) (hj : j ≤ 8) : (Float64.cmp (LF i) (LF j) == some .lt) = decide (i < j) := by
  have h := lf_all
  simp only [List.all_eq_true, List.mem_range, Bool.and_eq_true, beq_iff_eq (α := Bool)] at h
  exact (h i (by omega) j (by omega)).1.1.1.1
theorem lf_eq {i j : Nat} (hi : i ≤ 8) (hj : j ≤ 8) : (Float64.cmp (LF i) (LF j) == some .eq) = decide (i = j) := by
  have h := lf_all
  simp only [List.all_eq_true, List.mem_range, Bool.and_eq_true, beq_iff_eq (α := Bool)] at h
  exact (h i (by omega) j (by omega)).1.1.1.2
theorem lf_sub0 {i j : Nat} (hi : i ≤ 8) (hj : j ≤ 8) : Float64.isZero (Float64.sub (LF i) (LF j)) = decide (i = j) := by
  have h := lf_all
  simp only [List.all_eq_true, List.mem_range, Bool.and_eq_true, beq_iff_eq (α := Bool)] at h
  exact (h i (by omega) j (by omega)).1.1.2
theorem lf_add0 {i j : Nat} (hi : i ≤ 8) (hj : j ≤ 8) : Float64.isZero (Float64.add (LF i) (LF j)) = decide (i + j = 0) := by
  have h := lf_all
  simp only [List.all_eq_true, List.mem_range, Bool.and_eq_true, beq_iff_eq (α := Bool)] at h
  exact (h i (by omega) j (by omega)).1.2
theorem lf_0 {i : Nat} (hi : i ≤ 8) : Float64.isZero (LF i) = decide (i = 0) := by
  have h := lf_all
  simp only [List.all_eq_true, List.mem_range, Bool.and_eq_true, beq_iff_eq (α := Bool)] at h
  exact (h i (by omega) 0 (by omega)).2
noncomputable def max3 (i j k : Nat) : Nat := max (max i j) k
noncomputable def min3 (i j k : Nat) : Nat := min (min i j) k
section
variable {prog : Program} {w : World} {A : Around} {E : Value → Shared → Prop} {s : Shared} {Q : Value → Shared → Prop} {h₀ : Heap} {L : Addr} {m : Str → Option Value} {news : List (Addr × Obj)} {i j k : Nat} {t u v : Tok}
theorem max3_LF (hh : A.handled = none) (F : Fr h₀ L s.heap m) (N : News h₀ L s.heap news) (hi : i ≤ 8) (hj : j ≤ 8) (hk : k ≤ 8)
    (h : ∀ h' tk z, Fr h₀ L h' m → News h₀ L h' news → Q (.float (LF (max3 i j k)) z) { s with heap := h', toks := tk }) :
    wpAny (model prog w) A (call (.builtin "max") [.float (LF i) t, .float (LF j) u, .float (LF k) v]) Q E s := by
  refine max3_num hh (.float _ _) (.float _ _) (.float _ _) fun h' tk kp => ?_
  simp only [ltV, lf_lt hi hj, lf_lt hj hk, lf_lt hi hk, decide_eq_true_eq]
  have hF := F.grownK kp
  have hN := N.grown kp
  by_cases a : i < j <;> by_cases b : j < k <;> by_cases c : i < k <;> simp only [a, b, c, if_true, if_false] <;>
    first
    | (have e : max3 i j k = k := by unfold max3; omega); rw [← e]; exact h h' tk _ hF hN
    | (have e : max3 i j k = j := by unfold max3; omega); rw [← e]; exact h h' tk _ hF hN
    | (have e : max3 i j k = i := by unfold max3; omega); rw [← e]; exact h h' tk _ hF hN
theorem min3_LF (hh : A.handled = none) (F : Fr h₀ L s.heap m) (N : News h₀ L s.heap news) (hi : i ≤ 8) (hj : j ≤ 8) (hk : k ≤ 8)
    (h : ∀ h' tk z, Fr h₀ L h' m → News h₀ L h' news → Q (.float (LF (min3 i j k)) z) { s with heap := h', toks := tk }) :
    wpAny (model prog w) A (call (.builtin "min") [.float (LF i) t, .float (LF j) u, .float (LF k) v]) Q E s := by
  refine min3_num hh (.float _ _) (.float _ _) (.float _ _) fun h' tk kp => ?_
  simp only [ltV, lf_lt hj hi, lf_lt hk hj, lf_lt hk hi, decide_eq_true_eq]
  have hF := F.grownK kp
  have hN := N.grown kp
  by_cases a : j < i <;> by_cases b : k < j <;> by_cases c : k < i <;> simp only [a, b, c, if_true, if_false] <;>
    first
    | (have e : min3 i j k = k := by unfold min3; omega); rw [← e]; exact h h' tk _ hF hN
    | (have e : min3 i j k = j := by unfold min3; omega); rw [← e]; exact h h' tk _ hF hN
    | (have e : min3 i j k = i := by unfold min3; omega); rw [← e]; exact h h' tk _ hF hN
end
end
section
open PySem PySem.W PySem.Calls PyProof.Rows PySem.Spec PyProof.Rows.LCg PyProof.Rows.LCt
section
variable {prog : Program} {w : World} {A : Around} {s : Shared} {h₀ : Heap} {env : Env}
noncomputable def ForEnd (h₀ : Heap) (L : Addr) (s₁ : Shared) (I : Addr) (oI : Obj) (S : List (Addr × Obj) → Prop) (rest : (Str → Option Value) → List (Addr × Obj) → Prop) (Q : Flow → Shared → Prop) (f : Flow) (s₂ : Shared) : Prop :=
  match f with
  | .next | .cont => ∃ h' tk m' news', s₂ = { s₁ with heap := h', toks := tk } ∧ Fr h₀ L h' m' ∧ News h₀ L h' ((I, oI) :: news') ∧ Off1 I news' ∧ S news' ∧ rest m' news'
  | .brk => False
  | .ret v => Q (.ret v) s₂
noncomputable def ForRest (prog : Program) (w : World) (A : Around) (E : Value → Shared → Prop) (h₀ : Heap) (env : Env) (target : PySem.Expr) (body : List Stmt) (s : Shared) (S : List (Addr × Obj) → Prop) (P : Nat → Value → Prop) (Q : Flow → Shared → Prop) (Fin : (Str → Option Value) → List (Addr × Obj) → Prop) :
    Nat → Nat → (Str → Option Value) → List (Addr × Obj) → Prop
  | 0, _, m, news => Fin m news
  | k + 1, i, m, news => ∀ v I oI h tk, P i v → Fr h₀ env.locals h m → News h₀ env.locals h ((I, oI) :: news) → Off1 I news →
      wpAny (model prog w) A (assign target env v) (fun _ s₂ => wpAny (model prog w) A (execs body env)
        (ForEnd h₀ env.locals { s with heap := h, toks := tk } I oI S (fun m' news' => ForRest prog w A E h₀ env target body s S P Q Fin k (i + 1) m' news') Q) E s₂) E { s with heap := h, toks := tk }
theorem ForEnd.intro {L : Addr} {s₁ : Shared} {I : Addr} {oI : Obj} {S : List (Addr × Obj) → Prop} {rest : (Str → Option Value) → List (Addr × Obj) → Prop} {Q : Flow → Shared → Prop} {h' : Heap} {tk : Nat} {m' : Str → Option Value} {news' all : List (Addr × Obj)}
    (F : Fr h₀ L h' m') (N : News h₀ L h' all) (sub : ∀ p ∈ (I, oI) :: news', p ∈ all) (off : Off1 I news') (hS : S news') (r : rest m' news') : ForEnd h₀ L s₁ I oI S rest Q .next { s₁ with heap := h', toks := tk } :=
  ⟨h', tk, m', news', rfl, F, fun p hp => N p (sub p hp), off, hS, r⟩
variable {E : Value → Shared → Prop} {R : Result → Shared → Prop} {target iter : PySem.Expr} {body : List Stmt} {pos : Pos} {I : Addr} {fp : List Addr} {n : Nat} {P : Nat → Value → Prop} {St : Nat → Heap → Prop} {S : List (Addr × Obj) → Prop} {m : Str → Option Value} {l : List (Addr × Obj)} {Q : Flow → Shared → Prop} {Fin : (Str → Option Value) → List (Addr × Obj) → Prop}
/-- between two turns of a for loop: `i` items are read -/
noncomputable def ForInv (prog : Program) (w : World) (A : Around) (E : Value → Shared → Prop) (h₀ : Heap) (env : Env) (target : PySem.Expr) (body : List Stmt) (s : Shared) (S : List (Addr × Obj) → Prop) (P : Nat → Value → Prop) (Q : Flow → Shared → Prop) (Fin : (Str → Option Value) → List (Addr × Obj) → Prop) (St : Nat → Heap → Prop) (I : Addr) (n k : Nat) (s' : Shared) : Prop :=
  ∃ g tk mm l i, s' = { s with heap := g, toks := tk } ∧ k + i = n + 1 ∧ i ≤ n ∧ St i g ∧ Fr h₀ env.locals g mm ∧ News h₀ env.locals g l ∧ Off1 I l ∧ S l ∧ ForRest prog w A E h₀ env target body s S P Q Fin (n - i) i mm l
theorem for_next {s' : Shared} {i k : Nat} {g : Heap} {tk : Nat} {oI : Obj} {f : Flow} (hf : f = .next ∨ f = .cont) (stay : ∀ i h h' o nw, St i h → h.get? I = some o → h'.get? I = some o → (∀ b o, h₀.get? b = some o → h'.get? b = some o) → News h₀ env.locals h' nw → S nw → St i h')
    (hk : k + i = n + 1) (lt : i < n) (st : St (i + 1) g) (eI : g.get? I = some oI) (q : ForEnd h₀ env.locals { s with heap := g, toks := tk } I oI S (ForRest prog w A E h₀ env target body s S P Q Fin (n - (i + 1)) (i + 1)) Q f s') :
    ∃ j, j < k ∧ ForInv prog w A E h₀ env target body s S P Q Fin St I n j s' := by
  have q' : ForEnd h₀ env.locals { s with heap := g, toks := tk } I oI S (ForRest prog w A E h₀ env target body s S P Q Fin (n - (i + 1)) (i + 1)) Q .next s' := by
    rcases hf with rfl | rfl <;> exact q
  obtain ⟨g', tk', mm, l, rfl, F, N, off, hS, r⟩ := q'
  exact ⟨n - i, by omega, g', tk', mm, l, i + 1, rfl, by omega, lt, stay _ _ _ _ l st eI (N _ (.head _)).1 F.keep (fun p hp => N p (.tail _ hp)) hS, F, fun p hp => N p (.tail _ hp), off, hS, r⟩
theorem for_loop {s' : Shared} (W : Walks prog w A I fp [I] n P St) (own : ∀ i h, St i h → ∃ o, h.get? I = some o)
    (stay : ∀ i h h' o nw, St i h → h.get? I = some o → h'.get? I = some o → (∀ b o, h₀.get? b = some o → h'.get? b = some o) → News h₀ env.locals h' nw → S nw → St i h')
    (go : ∀ i (s' : Shared) v (R : Unit → Shared → Prop), St i s'.heap → R () s' → wpAny (model prog w) A (letOwnedTupleGo target (.ref I) v) R E s') (li : env.locals ≠ I) (i0 : h₀.get? I = none)
    (hE : ∀ e s', E e s' → notedBy (model prog w) A env (fun e s' => R (.error e) s') e s') (hQ : ∀ v s', Q (.ret v) s' → R (.ok (.ret v)) s') (hR : ∀ mm l g tk, Fin mm l → Fr h₀ env.locals g mm → News h₀ env.locals g l → R (.ok .next) { s with heap := g, toks := tk })
    (J₀ : ForInv prog w A E h₀ env target body s S P Q Fin St I n (n + 1) s') : codeAny (model prog w) A (.forLoop target (.ref I) body [] env) R s' := by
  refine codeAny_forLoop_any (ForInv prog w A E h₀ env target body s S P Q Fin St I n) (fun k s' J => ?_) (n + 1) J₀
  refine Classical.byContradiction fun no => ?_
  obtain ⟨g, tk, mm, l, i, rfl, hk, hi, st, F, N, off, hS, r⟩ := J
  refine no ?_
  clear no
  have keepF := fun {g₁} k₁ => fr_but (h' := g₁) F k₁ li i0
  have keepN := fun {g₁} k₁ => news_but (h' := g₁) N k₁ (off1_mem off)
  rcases Nat.lt_or_eq_of_le hi with lt | rfl
  · refine W.item i _ _ _ lt st fun v g₁ tk₁ hv st₁ k₁ => ?_
    obtain ⟨oI, eI⟩ := own _ _ st₁
    have e : n - i = (n - (i + 1)) + 1 := by omega
    rw [e] at r
    refine wpAny_mono (go (i + 1) { s with heap := g₁, toks := tk₁ } v (fun _ s₁ => s₁ = { s with heap := g₁, toks := tk₁ }) st₁ rfl) (fun _ s₁ hs => ?_) hE
    subst hs
    refine wpAny_mono (r v I oI g₁ tk₁ hv (keepF k₁) (List.forall_mem_cons.mpr ⟨⟨eI, li.symm, i0⟩, keepN k₁⟩) off) (fun _ _ z => wpAny_mono z (fun f s₃ q => ?_) hE) hE
    rcases f with _ | _ | _ | v
    all_goals first
      | exact for_next (.inl rfl) stay hk lt st₁ eI q
      | exact for_next (.inr rfl) stay hk lt st₁ eI q
      | exact hQ _ _ q
      | exact False.elim q
  · rw [Nat.sub_self] at r
    exact W.done _ _ _ st fun g₁ tk₁ k₁ => wpAny_execs_nil (hR mm l g₁ tk₁ r (keepF k₁) (keepN k₁))
/-- `xv` is an iterable of a for loop whose walk is known -/
noncomputable def ReadyF (prog : Program) (w : World) (A : Around) (E : Value → Shared → Prop) (env : Env) (target : PySem.Expr) (body : List Stmt) (Q : Flow → Shared → Prop) (xv : Value) : Shared → Prop :=
  wpAny (model prog w) A (pyIter xv) (fun it => codeAny (model prog w) A (.forLoop target it body [] env) fun r s' => match r with | .ok f => Q f s' | .error e => cameBackBy (model prog w) A env E e s') E
theorem door_F (_F : Fr h₀ env.locals s.heap m) (h : wpAny (model prog w) A (eval iter env) (ReadyF prog w A E env target body Q) E s) (hs : ∀ z, foldedSetIterable iter env z = pure z) : wpAny (model prog w) A (exec (.For target iter body [] pos) env) Q E s := wpAny_For h hs
/-- how the turns of a for loop end: each frame and ledger that comes out answers -/
noncomputable abbrev ForFin (h₀ : Heap) (env : Env) (Q : Flow → Shared → Prop) (s : Shared) (mm : Str → Option Value) (l : List (Addr × Obj)) : Prop := ∀ g tk, Fr h₀ env.locals g mm → News h₀ env.locals g l → Q .next { s with heap := g, toks := tk }
theorem ReadyF.tup {a : Addr} {its : Array Value} (hh : A.handled = none) (F : Fr h₀ env.locals s.heap m) (N : News h₀ env.locals s.heap l) (q : TupAt a its l) (hE : PassesOwn (model prog w) A env E)
    (h : ∀ g, ForRest prog w A E h₀ env target body { s with heap := g } (TupAt a its) (fun i v => its[i]? = some v) Q (ForFin h₀ env Q { s with heap := g }) its.size 0 m l) : ReadyF prog w A E env target body Q (.ref a) s := by
  refine wpAny_pyIter_tuple (q.tuple N) ?_
  obtain ⟨k, F', N', li, i0, out, _⟩ := laid_iter F N { cls := .type "tuple_iterator", data := .fields #[.ref a, .int 0 0] }
  exact for_loop (Walks.tuple hh _ a (Nat.ne_of_lt (q.below N)) its) (fun _ _ st => st.1.imp fun _ => And.left) (fun _ _ _ _ _ st e e' _ N q => tup_stay st e e' N q) (fun _ _ _ _ st => letGo_tupleiter st.1) li i0 hE (fun _ _ => id) (fun _ _ _ _ z => z _ _)
    ⟨_, _, m, l, 0, rfl, rfl, Nat.zero_le _, ⟨⟨_, Heap.get?_push_size _ rfl, rfl, rfl⟩, q.tuple N'⟩, F', N', off1_of out, q, h _⟩
theorem ReadyF.lst {x : Str} {px : Pos} {a : Addr} {its : Array Value} (hh : A.handled = none) (F : Fr h₀ env.locals s.heap m) (N : News h₀ env.locals s.heap l) (q : LstAt a its l) (hE : PassesOwn (model prog w) A env E)
    (h : ∀ g, ForRest prog w A E h₀ env (.Name x px) body { s with heap := g } (LstAt a its) (fun i v => its[i]? = some v) Q (ForFin h₀ env Q { s with heap := g }) its.size 0 m l) : ReadyF prog w A E env (.Name x px) body Q (.ref a) s := by
  refine wpAny_pyIter_list (q.list N) ?_
  obtain ⟨k, F', N', li, i0, out, _⟩ := laid_iter F N { cls := .type "list_iterator", data := .fields #[.ref a, .int 0 0] }
  exact for_loop (Walks.list hh _ a (Nat.ne_of_lt (q.below N)) its) (fun _ _ st => st.1.imp fun _ => And.left) (fun _ _ _ _ _ st e e' _ N q => ⟨st.1.at fun _ z => e'.trans (e.symm.trans z), q.list N⟩) (fun _ _ _ _ _ => wpAny_pure) li i0 hE (fun _ _ => id) (fun _ _ _ _ z => z _ _)
    ⟨_, _, m, l, 0, rfl, rfl, Nat.zero_le _, ⟨⟨_, Heap.get?_push_size _ rfl, rfl, rfl⟩, q.list N'⟩, F', N', off1_of out, q, h _⟩
theorem ForRest.inv (J : Nat → (Str → Option Value) → List (Addr × Obj) → Prop) {news : List (Addr × Obj)} (h0 : J 0 m news)
    (turn : ∀ i m news v I oI h tk, i < n → J i m news → P i v → Fr h₀ env.locals h m → News h₀ env.locals h ((I, oI) :: news) → Off1 I news → wpAny (model prog w) A (assign target env v) (fun _ s₂ => wpAny (model prog w) A (execs body env)
      (ForEnd h₀ env.locals { s with heap := h, toks := tk } I oI S (fun m' news' => J (i + 1) m' news') Q) E s₂) E { s with heap := h, toks := tk })
    (fin : ∀ m news, J n m news → Fin m news) : ForRest prog w A E h₀ env target body s S P Q Fin n 0 m news := by
  have key : ∀ (j i : Nat) (m : Str → Option Value) (news : List (Addr × Obj)), i + j = n → J i m news → ForRest prog w A E h₀ env target body s S P Q Fin j i m news := by
    intro j
    induction j with
    | zero =>
      intro i m news hi h
      exact fin m news (by rw [show n = i by omega]; exact h)
    | succ j ih =>
      intro i m news hi h v I oI h' tk hP F N off
      refine wpAny_mono (turn i m news v I oI h' tk (by omega) h hP F N off) (fun _ s₂ h₂ => wpAny_mono h₂ (fun f s₃ h₃ => ?_) fun _ _ e => e) fun _ _ e => e
      cases f with
      | next => obtain ⟨h₄, tk₄, m₄, n₄, e, F₄, N₄, o₄, S₄, J₄⟩ := h₃; exact ⟨h₄, tk₄, m₄, n₄, e, F₄, N₄, o₄, S₄, ih (i + 1) _ _ (by omega) J₄⟩
      | cont => obtain ⟨h₄, tk₄, m₄, n₄, e, F₄, N₄, o₄, S₄, J₄⟩ := h₃; exact ⟨h₄, tk₄, m₄, n₄, e, F₄, N₄, o₄, S₄, ih (i + 1) _ _ (by omega) J₄⟩
      | brk => exact h₃
      | ret v => exact h₃
  exact key n 0 m news (by omega) h0
end
end
section
open PySem PySem.W PySem.Calls PyProof.Rows PySem.Spec PyProof.Rows.LCg PyProof.Rows.LCt PySem.SeqAt
noncomputable abbrev Rw := Int × Int × Int
noncomputable def rowD (r : Rw) : PyData := .list [.int r.1, .int r.2.1, .int r.2.2]
noncomputable def RowAt (r : Rw) (o : Obj) : Prop := ∃ t1 t2 t3 c, o = W.listOf #[.int r.1 t1, .int r.2.1 t2, .int r.2.2 t3] c
noncomputable def RowsAt : List Rw → List (Addr × Obj) → Prop
  | [], [] => True
  | r :: rs, p :: ps => RowAt r p.2 ∧ RowsAt rs ps
  | _, _ => False
noncomputable abbrev refs (RL : List (Addr × Obj)) : List Value := RL.map fun p => Value.ref p.1
theorem RowsAt.snoc {r : Rw} {p : Addr × Obj} (hr : RowAt r p.2) : ∀ {rs : List Rw} {ps : List (Addr × Obj)}, RowsAt rs ps → RowsAt (rs ++ [r]) (ps ++ [p])
  | [], [], _ => ⟨hr, trivial⟩
  | _ :: _, _ :: _, h => ⟨h.1, h.2.snoc hr⟩
  | [], _ :: _, h => h.elim
  | _ :: _, [], h => h.elim
theorem RowsAt.len : ∀ {rs : List Rw} {ps : List (Addr × Obj)}, RowsAt rs ps → ps.length = rs.length
  | [], [], _ => rfl
  | _ :: _, _ :: _, h => congrArg Nat.succ h.2.len
  | [], _ :: _, h => h.elim
  | _ :: _, [], h => h.elim
theorem RowsAt.at : ∀ {rs : List Rw} {ps : List (Addr × Obj)} {i : Nat} {p : Addr × Obj}, RowsAt rs ps → ps[i]? = some p → ∃ r, rs[i]? = some r ∧ RowAt r p.2
  | [], [], _, _, _, h => by simp at h
  | r :: _, _ :: _, 0, _, h, e => by simp at e; subst e; exact ⟨r, rfl, h.1⟩
  | _ :: _, _ :: _, i + 1, _, h, e => by
    rw [List.getElem?_cons_succ] at e ⊢
    exact h.2.at e
  | [], _ :: _, _, _, h, _ => h.elim
  | _ :: _, [], _, _, h, _ => h.elim
section
variable {prog : Program} {w : World} {A : Around} {E : Value → Shared → Prop} {s : Shared} {h₀ : Heap} {L : Addr} {led : List (Addr × Obj)} {Q : Value → Shared → Prop}
theorem row_reads {h : Heap} {a : Addr} {o : Obj} {r : Rw} (N : News h₀ L h led) (hm : (a, o) ∈ led) (hr : RowAt r o) : ∃ as, Reads h (.ref a) (rowD r) as := by
  refine Classical.byContradiction fun hG9 => ?_
  obtain ⟨t1, t2, t3, c, rfl⟩ := hr
  refine hG9 ?_
  clear hG9
  exact ⟨_, Reads.list (N _ hm).1 rfl rfl (ReadsAll.cons (Reads.int _ _) (ReadsAll.cons (Reads.int _ _) (ReadsAll.cons (Reads.int _ _) ReadsAll.nil)))⟩
theorem rows_reads {h : Heap} (N : News h₀ L h led) : ∀ {rows : List Rw} {RL : List (Addr × Obj)}, RowsAt rows RL → (∀ p ∈ RL, p ∈ led) → ∃ as, ReadsAll h (refs RL) (rows.map rowD) as
  | [], [], _, _ => ⟨[], ReadsAll.nil⟩
  | _ :: _, _ :: _, hr, sub => by
    obtain ⟨as, h1⟩ := row_reads N (sub _ List.mem_cons_self) hr.1
    obtain ⟨bs, h2⟩ := rows_reads N hr.2 fun p hp => sub p (List.mem_cons_of_mem _ hp)
    exact ⟨_, ReadsAll.cons h1 h2⟩
  | [], _ :: _, hr, _ => hr.elim
  | _ :: _, [], hr, _ => hr.elim
theorem list_reads {h : Heap} {a : Addr} {c : Nat} {rows : List Rw} {RL : List (Addr × Obj)} (N : News h₀ L h led) (hm : (a, W.listOf (refs RL).toArray c) ∈ led) (hr : RowsAt rows RL) (sub : ∀ p ∈ RL, p ∈ led) : ∃ as, Reads h (.ref a) (.list (rows.map rowD)) as := by
  obtain ⟨as, h1⟩ := rows_reads N hr sub
  exact ⟨_, Reads.list (N _ hm).1 rfl rfl h1⟩
theorem lay_rows : ∀ rows : List Rw, PyData.canLayAll0 (rows.map rowD) = true
  | [] => rfl
  | r :: rs => by
    rw [List.map_cons]
    show (PyData.canLay0 (rowD r) && PyData.canLayAll0 (rs.map rowD)) = true
    rw [lay_rows rs]; rfl
theorem eqv_row (x r : Rw) : PyData.eqv (rowD x) (rowD r) = decide (x = r) := by
  refine Classical.byContradiction fun hG9 => ?_
  obtain ⟨a, b, c⟩ := x
  refine hG9 ?_
  clear hG9
  refine Classical.byContradiction fun hG9 => ?_
  obtain ⟨a', b', c'⟩ := r
  refine hG9 ?_
  clear hG9
  simp only [rowD, PyData.eqv, PyData.eqvAll, Bool.and_true]
  rw [Bool.eq_iff_iff]
  simp
theorem any_rows (rows : List Rw) (r : Rw) : ((rows.map rowD).any fun y => PyData.eqv y (rowD r)) = decide (r ∈ rows) := by
  rw [List.any_map, Bool.eq_iff_iff, List.any_eq_true, decide_eq_true_eq]
  constructor
  · intro hJ0
    refine Classical.byContradiction fun hG9 => ?_
    obtain ⟨x, hx, he⟩ := hJ0
    refine hG9 ?_
    clear hG9
    have : x = r := by simpa [eqv_row] using he
    exact this ▸ hx
  · intro h
    exact ⟨r, h, by simp [eqv_row]⟩
theorem depth_row (r : Rw) : (rowD r).depth ≤ 2 := by
  refine Classical.byContradiction fun hG9 => ?_
  obtain ⟨a, b, c⟩ := r
  refine hG9 ?_
  clear hG9
  simp [rowD, PyData.depth, PyData.depthAll]
theorem in_rows {a b : Addr} {o : Obj} {c : Nat} {r : Rw} {rows : List Rw} {RL : List (Addr × Obj)} (N : News h₀ L s.heap led) (hm : (a, o) ∈ led) (ho : RowAt r o) (hb : (b, W.listOf (refs RL).toArray c) ∈ led) (hr : RowsAt rows RL) (sub : ∀ p ∈ RL, p ∈ led) (hu : A.units + 8 < cLine)
    (h : Q (.bool (decide (r ∈ rows))) s) : wpAny (model prog w) A (compareOp .In (.ref a) (.ref b)) Q E s := by
  obtain ⟨as, h1⟩ := list_reads N hb hr sub
  obtain ⟨bs, h2⟩ := row_reads N hm ho
  refine in_list_reads h1 h2 (lay_rows rows) rfl ?_ (by rw [any_rows]; exact h)
  have := depth_row r
  omega
theorem notIn_rows {a b : Addr} {o : Obj} {c : Nat} {r : Rw} {rows : List Rw} {RL : List (Addr × Obj)} (N : News h₀ L s.heap led) (hm : (a, o) ∈ led) (ho : RowAt r o) (hb : (b, W.listOf (refs RL).toArray c) ∈ led) (hr : RowsAt rows RL) (sub : ∀ p ∈ RL, p ∈ led) (hu : A.units + 8 < cLine)
    (h : Q (.bool (!decide (r ∈ rows))) s) : wpAny (model prog w) A (compareOp .NotIn (.ref a) (.ref b)) Q E s := by
  obtain ⟨as, h1⟩ := list_reads N hb hr sub
  obtain ⟨bs, h2⟩ := row_reads N hm ho
  refine notIn_list_reads h1 h2 (lay_rows rows) rfl ?_ (by rw [any_rows]; exact h)
  have := depth_row r
  omega
theorem ne_rows {a b : Addr} {c c' : Nat} {rows : List Rw} {RL : List (Addr × Obj)} (N : News h₀ L s.heap led) (hm : (b, W.listOf (#[] : Array Value) c') ∈ led) (hb : (a, W.listOf (refs RL).toArray c) ∈ led) (hr : RowsAt rows RL) (sub : ∀ p ∈ RL, p ∈ led) (hu : A.units + 8 < cLine)
    (h : Q (.bool (!decide (rows = []))) s) : wpAny (model prog w) A (compareOp .NotEq (.ref a) (.ref b)) Q E s := by
  obtain ⟨as, h1⟩ := list_reads N hb hr sub
  refine compareNe_reads h1 (Reads.list (N _ hm).1 rfl rfl ReadsAll.nil) (lay_rows rows) rfl ?_ ?_
  · simp [PyData.depth, PyData.depthAll]
    omega
  · have e : PyData.eqv (.list (rows.map rowD)) (.list []) = decide (rows = []) := by cases rows <;> simp [PyData.eqv, PyData.eqvAll]
    rw [e]; exact h
end
noncomputable def sortR (x y z : Int) : Rw := (max (max x y) z, x + y + z - max (max x y) z - min (min x y) z, min (min x y) z)
theorem sum_perm {l₁ l₂ : List Int} (p : l₁.Perm l₂) : l₁.sum = l₂.sum := by
  induction p with
  | nil => rfl
  | cons x _ ih => rw [List.sum_cons, List.sum_cons, ih]
  | swap x y l => rw [List.sum_cons, List.sum_cons, List.sum_cons, List.sum_cons, Int.add_left_comm]
  | trans _ _ h1 h2 => exact h1.trans h2
theorem ge3 {u v w t : Int} (h1 : v ≤ u) (h2 : w ≤ u) (m : t = u ∨ t = v ∨ t = w) : t ≤ u := by
  rcases m with rfl | rfl | rfl
  · exact Int.le_refl _
  · exact h1
  · exact h2
theorem le3 {u v w t : Int} (h1 : w ≤ u) (h2 : w ≤ v) (m : t = u ∨ t = v ∨ t = w) : w ≤ t := by
  rcases m with rfl | rfl | rfl
  · exact h1
  · exact h2
  · exact Int.le_refl _
theorem max_eq3 {x y z u : Int} (hx : x ≤ u) (hy : y ≤ u) (hz : z ≤ u) (m : u = x ∨ u = y ∨ u = z) : u = max (max x y) z := by
  refine Int.le_antisymm ?_ (Int.max_le.mpr ⟨Int.max_le.mpr ⟨hx, hy⟩, hz⟩)
  rcases m with h | h | h
  · exact h ▸ Int.le_trans (Int.le_max_left _ _) (Int.le_max_left _ _)
  · exact h ▸ Int.le_trans (Int.le_max_right _ _) (Int.le_max_left _ _)
  · exact h ▸ Int.le_max_right _ _
theorem min_eq3 {x y z u : Int} (hx : u ≤ x) (hy : u ≤ y) (hz : u ≤ z) (m : u = x ∨ u = y ∨ u = z) : u = min (min x y) z := by
  refine Int.le_antisymm (Int.le_min.mpr ⟨Int.le_min.mpr ⟨hx, hy⟩, hz⟩) ?_
  rcases m with h | h | h
  · exact h ▸ Int.le_trans (Int.min_le_left _ _) (Int.min_le_left _ _)
  · exact h ▸ Int.le_trans (Int.min_le_left _ _) (Int.min_le_right _ _)
  · exact h ▸ Int.min_le_right _ _
theorem mem3 {t x y z : Int} (h : t ∈ [x, y, z]) : t = x ∨ t = y ∨ t = z := by
  rcases List.mem_cons.mp h with h | h
  · exact .inl h
  rcases List.mem_cons.mp h with h | h
  · exact .inr (.inl h)
  exact .inr (.inr (List.mem_singleton.mp h))
theorem in30 {x y z : Int} : x ∈ [x, y, z] := .head _
theorem in31 {x y z : Int} : y ∈ [x, y, z] := .tail _ (.head _)
theorem in32 {x y z : Int} : z ∈ [x, y, z] := .tail _ (.tail _ (.head _))
theorem mid3 {u v w S : Int} (h : u + (v + (w + 0)) = S) : v = S - u - w := by omega
theorem sorted_R {l : List Int} {x y z : Int} (p : l.Perm [x, y, z]) (o : l.Pairwise (fun x y => y ≤ x)) : l = [(sortR x y z).1, (sortR x y z).2.1, (sortR x y z).2.2] := by
  have hl := p.length_eq
  match l, hl with
  | [u, v, w], _ =>
    have o1 := List.pairwise_cons.mp o
    have hv : v ≤ u := o1.1 v (.head _)
    have hw : w ≤ u := o1.1 w (.tail _ (.head _))
    have hvw : w ≤ v := (List.pairwise_cons.mp o1.2).1 w (.head _)
    have mx := fun t (h : t ∈ [x, y, z]) => mem3 (p.mem_iff.mpr h)
    have e1 := max_eq3 (ge3 hv hw (mx x in30)) (ge3 hv hw (mx y in31)) (ge3 hv hw (mx z in32)) (mem3 (p.mem_iff.mp in30))
    have e3 := min_eq3 (le3 hw hvw (mx x in30)) (le3 hw hvw (mx y in31)) (le3 hw hvw (mx z in32)) (mem3 (p.mem_iff.mp in32))
    have hs : u + (v + (w + 0)) = x + (y + (z + 0)) := sum_perm p
    have e2 : v = x + y + z - max (max x y) z - min (min x y) z := by
      rw [← e1, ← e3]
      exact mid3 (by rw [hs, Int.add_zero, Int.add_assoc])
    unfold sortR
    rw [← e2, ← e1, ← e3]
noncomputable def selI {α : Type} (x y z : α) (i : Int) : α := if i = 0 then x else if i = 1 then y else z
noncomputable def Is3 (i : Int) : Prop := i = 0 ∨ i = 1 ∨ i = 2
theorem is3_lo {i : Int} (h : Is3 i) : 0 ≤ i := by rcases h with rfl | rfl | rfl <;> decide
theorem is3_hi {i : Int} (h : Is3 i) : i < 2 ^ 63 := by rcases h with rfl | rfl | rfl <;> decide
noncomputable def updI {α : Type} (k i : Int) (a b : α) : α := if i = k then b else a
theorem ki3 {x y z b i : Int} {t u v q : Tok} (h : Is3 i) : ki_setL [Value.int x t, .int y u, .int z v] i.toNat (.int b q) = some [.int (updI 0 i x b) (updI 0 i t q), .int (updI 1 i y b) (updI 1 i u q), .int (updI 2 i z b) (updI 2 i v q)] := by
  rcases h with rfl | rfl | rfl <;> rfl
section
variable {prog : Program} {w : World} {A : Around} {E : Value → Shared → Prop} {s : Shared} {Q : Value → Shared → Prop}
theorem get_sel {l : Addr} {x y z i : Int} {t u v k : Tok} (hl : s.heap.IsList l [Value.int x t, .int y u, .int z v].toArray) (hi : Is3 i) (h : Q (.int (selI x y z i) (selI t u v i)) s) : wpAny (model prog w) A (getItem (.ref l) (.int i k)) Q E s :=
  wpAny_getItem_list hl (is3_lo hi) (is3_hi hi) (by rcases hi with rfl | rfl | rfl <;> rfl) h
theorem item_selL {value slice : PySem.Expr} {l : Addr} {x y z i : Int} {t u v k : Tok} (hl : s.heap.IsList l [Value.int x t, .int y u, .int z v].toArray) (hi : Is3 i) (h : Q (.int (selI x y z i) (selI t u v i)) s)
    (hs : subscripted slice false (.ref l) (.int i k) = operate [.ref l, .int i k] (getItem (.ref l) (.int i k)) := by with_unfolding_all rfl) : wpAny (model prog w) A (subscriptTail value slice (.ref l) (.int i k)) Q E s :=
  tail_any hl.typeIs slot_list_getitem.lookup (get_sel hl hi h) hs
end
noncomputable def step1 (b : Bool) (r : Rw) (fr : List Rw) : List Rw := if b = true ∧ r ∉ fr then fr ++ [r] else fr
noncomputable def stepRow (r : Rw) (fr : List Rw) : List Rw :=
  step1 (decide (r.2.1 - r.2.2 > 1)) (sortR r.1 (r.2.1 - 1) (r.2.2 + 1)) (step1 (decide (r.1 - r.2.2 > 1)) (sortR (r.1 - 1) r.2.1 (r.2.2 + 1)) (step1 (decide (r.1 - r.2.1 > 1)) (sortR (r.1 - 1) (r.2.1 + 1) r.2.2) fr))
noncomputable def layerNext (rows : List Rw) : List Rw := rows.foldl (fun fr r => stepRow r fr) []
noncomputable def ansM : Nat → List Rw → Rw → Int → Int
  | 0, _, _, _ => -1
  | k + 1, rows, g, d => if rows = [] then -1 else if g ∈ rows then d else ansM k (layerNext rows) g (d + 1)
noncomputable def iterM : Nat → List Rw → List Rw
  | 0, rows => rows
  | k + 1, rows => iterM k (layerNext rows)
theorem step1_len (b : Bool) (r : Rw) (fr : List Rw) : (step1 b r fr).length ≤ fr.length + 1 := by
  unfold step1
  split <;> simp
end
section
open PySem PySem.W PySem.Calls PyProof.Rows PySem.Spec PySem.Flt
section
variable {prog : Program} {w : World} {A : Around} {E : Value → Shared → Prop} {s : Shared} {h₀ : Heap} {L : Addr} {m : Str → Option Value} {led : List (Addr × Obj)} {S : Addr} {x y z : Int} {t u v : Tok} {Q : Value → Shared → Prop}
theorem max_tup (hh : A.handled = none) (F : Fr h₀ L s.heap m) (N : News h₀ L s.heap led) (hm : (S, ({ cls := .type "tuple", data := .seq #[.int x t, .int y u, .int z v] } : Obj)) ∈ led)
    (h : ∀ g tk n t', (n = x ∨ n = y ∨ n = z) → x ≤ n ∧ y ≤ n ∧ z ≤ n → Fr h₀ L g m → News h₀ L g led → Q (.int n t') { s with heap := g, toks := tk }) : wpAny (model prog w) A (call (.builtin "max") [.ref S]) Q E s :=
  call_max_walk (over_tuple (its := #[.int x t, .int y u, .int z v]) hh ⟨_, (N _ hm).1, rfl, 0, rfl⟩ (Nat.succ_pos 2) (cmpOf_gt _ (by intro w hw; simp at hw; rcases hw with rfl | rfl | rfl <;> exact .int _ _)) fun w g tk hv k => by
    have hF := F.keeps k
    have hN := N.keeps k
    by_cases h1 : x < y <;> by_cases h2 : y < z <;> by_cases h3 : x < z <;> simp [argBest, ltV, h1, h2, h3] at hv <;> subst hv <;> exact h g tk _ _ (by omega) (by omega) hF hN)
theorem min_tup (hh : A.handled = none) (F : Fr h₀ L s.heap m) (N : News h₀ L s.heap led) (hm : (S, ({ cls := .type "tuple", data := .seq #[.int x t, .int y u, .int z v] } : Obj)) ∈ led)
    (h : ∀ g tk n t', (n = x ∨ n = y ∨ n = z) → n ≤ x ∧ n ≤ y ∧ n ≤ z → Fr h₀ L g m → News h₀ L g led → Q (.int n t') { s with heap := g, toks := tk }) : wpAny (model prog w) A (call (.builtin "min") [.ref S]) Q E s :=
  call_min_walk (over_tuple (its := #[.int x t, .int y u, .int z v]) hh ⟨_, (N _ hm).1, rfl, 0, rfl⟩ (Nat.succ_pos 2) (cmpOf_lt _ (by intro w hw; simp at hw; rcases hw with rfl | rfl | rfl <;> exact .int _ _)) fun w g tk hv k => by
    have hF := F.keeps k
    have hN := N.keeps k
    by_cases h1 : y < x <;> by_cases h2 : z < y <;> by_cases h3 : z < x <;> simp [argBest, ltV, h1, h2, h3] at hv <;> subst hv <;> exact h g tk _ _ (by omega) (by omega) hF hN)
end
end
section
open PySem PySem.W PySem.Calls PyProof.Rows PySem.Spec PyProof.Rows.LCg PyProof.Rows.LCt
/-- a comprehension of two clauses over the two targets `t0`, `t1` -/
noncomputable abbrev two (elt t0 i0 t1 i1 : PySem.Expr) (scope : Scope) (pos : Pos) : PySem.Expr := .ListComp elt [⟨t0, i0, [], 0⟩, ⟨t1, i1, [], 0⟩] scope pos
section
variable {M : Model} {A : Around} {E : Value → Shared → Prop} {s : Shared} {α β : Type}
theorem andThen {m : Sem α} {k : α → Sem β} {Q : α → Shared → Prop} {R : β → Shared → Prop} (h : wpAny M A m Q E s) (hk : ∀ x s', Q x s' → wpAny M A (k x) R E s') : wpAny M A (m >>= k) R E s :=
  wpAny_bind (wpAny_mono h hk fun _ _ => id)
end
section
variable {prog : Program} {w : World} {A : Around} {R : Result → Shared → Prop} {s : Shared} {elt t0 i0 t1 i1 : PySem.Expr} {scope : Scope} {pos : Pos} {it acc : Value} {env : Env}
/-- a raise inside the run goes out by the frame's note -/
noncomputable abbrev Noted (prog : Program) (w : World) (A : Around) (env : Env) (R : Result → Shared → Prop) : Value → Shared → Prop := notedBy (model prog w) A env fun e => R (.error e)
theorem turn_in : compTurn (two elt t0 i0 t1 i1 scope pos) 1 it acc env = (standAt i1.pos >>= fun _ => pyNext it >>= fun
    | none => pure (.done .next)
    | some v => letOwnedTupleGo t1 it v >>= fun _ => assign t1 env v >>= fun _ => (eval elt env >>= fun x => call (.builtin "list.append") [acc, x] >>= fun _ => pure ()) >>= fun _ => again (.compLoop (two elt t0 i0 t1 i1 scope pos) 1 it acc env)) := by rfl
theorem turn_out : compTurn (two elt t0 i0 t1 i1 scope pos) 0 it acc env = (standAt i0.pos >>= fun _ => pyNext it >>= fun
    | none => pure (.done .next)
    | some v => letOwnedTupleGo t0 it v >>= fun _ => assign t0 env v >>= fun _ => eval i1 env >>= fun x => standAt i1.pos >>= fun _ => foldedSetIterable i1 env x >>= fun x => holding [x] (pyIter x) >>= fun it' =>
      runOwn (.compStart (two elt t0 i0 t1 i1 scope pos) 1 it' acc env) env >>= fun _ => again (.compLoop (two elt t0 i0 t1 i1 scope pos) 0 it acc env)) := by rfl
/-- the inner clause's loop, by a law `J` that holds between its turns -/
theorem loop_in (J : Nat → Shared → Prop)
    (turn : ∀ n s, J n s → wpAny (model prog w) A (pyNext it) (fun
      | none => R (.ok .next)
      | some v => wpAny (model prog w) A (letOwnedTupleGo t1 it v) (fun _ => wpAny (model prog w) A (assign t1 env v) (fun _ => wpAny (model prog w) A (eval elt env) (fun x =>
          wpAny (model prog w) A (call (.builtin "list.append") [acc, x]) (fun _ s' => ∃ k, k < n ∧ J k s') (Noted prog w A env R)) (Noted prog w A env R)) (Noted prog w A env R)) (Noted prog w A env R)) (Noted prog w A env R) s)
    (n : Nat) (h : J n s) : codeAny (model prog w) A (.compLoop (two elt t0 i0 t1 i1 scope pos) 1 it acc env) R s :=
  codeAny_loop rfl J (fun n s j => wpAny_noted (by
    rw [turn_in]
    refine wpAny_bind (wpAny_standAt (andThen (turn n s j) fun r s₁ q => ?_))
    rcases r with _ | v
    · exact wpAny_pure q
    · exact andThen q fun _ _ q => andThen q fun _ _ q => andThen (andThen q fun _ _ q => andThen q fun _ _ q => wpAny_pure q) fun _ _ q => wpAny_pure ⟨rfl, q⟩)) n h
/-- the outer clause's loop -/
theorem loop_out (J : Nat → Shared → Prop)
    (turn : ∀ n s, J n s → wpAny (model prog w) A (pyNext it) (fun
      | none => R (.ok .next)
      | some v => wpAny (model prog w) A (letOwnedTupleGo t0 it v) (fun _ => wpAny (model prog w) A (assign t0 env v) (fun _ => wpAny (model prog w) A (eval i1 env) (fun x => wpAny (model prog w) A (pyIter x) (fun it' =>
          codeAny (model prog w) A (.compStart (two elt t0 i0 t1 i1 scope pos) 1 it' acc env) (fun | .ok _ => fun s' => ∃ k, k < n ∧ J k s' | .error e => cameBackBy (model prog w) A env (Noted prog w A env R) e)) (Noted prog w A env R)) (Noted prog w A env R)) (Noted prog w A env R)) (Noted prog w A env R)) (Noted prog w A env R) s)
    (n : Nat) (h : J n s) (hs : ∀ x, foldedSetIterable i1 env x = pure x) : codeAny (model prog w) A (.compLoop (two elt t0 i0 t1 i1 scope pos) 0 it acc env) R s :=
  codeAny_loop rfl J (fun n s j => wpAny_noted (by
    rw [turn_out]
    refine wpAny_bind (wpAny_standAt (andThen (turn n s j) fun r s₁ q => ?_))
    rcases r with _ | v
    · exact wpAny_pure q
    · refine andThen q fun _ _ q => andThen q fun _ _ q => andThen q fun x _ q => wpAny_bind (wpAny_standAt (wpAny_bind (wpAny_of_eq (hs x) (wpAny_bind (wpAny_holding (wpAny_mono q (fun _ _ q => ?_) fun _ _ => id))))))
      refine wpAny_bind (wpAny_runOwn (codeAny_mono q fun r _ q => ?_))
      rcases r with _ | _
      · exact q
      · exact wpAny_pure ⟨rfl, q⟩)) n h
theorem start_in (h0 : codeAny (model prog w) A (.compLoop (two elt t0 i0 t1 i1 scope pos) 1 it acc env) R s)
    (h : wpAny (model prog w) A (pyIter it) (fun it' => codeAny (model prog w) A (.compLoop (two elt t0 i0 t1 i1 scope pos) 1 it' acc env) R) (Noted prog w A env R) s) : codeAny (model prog w) A (.compStart (two elt t0 i0 t1 i1 scope pos) 1 it acc env) R s := by
  refine codeAny_of_tree (wpAny_notedAt (pos := theWindowsPlace) ?_)
  unfold compStart
  refine wpAny_bind (wpAny_askSetting (wpAny_ite ?_))
  split
  · first
      | exact wpAny_pure ⟨rfl, h0⟩
      | exact wpAny_bind (wpAny_pure (wpAny_pure ⟨rfl, h0⟩))
  · exact wpAny_bind (wpAny_rule (wpAny_bind (wpAny_standAt (andThen h fun _ _ q => wpAny_pure ⟨rfl, q⟩))))
end
section
variable {prog : Program} {w : World} {A : Around} {E : Value → Shared → Prop} {s : Shared} {h₀ : Heap} {L : Addr} {m : Str → Option Value} {env : Env}
variable {elt : PySem.Expr} {gens : List Comprehension} {x y : Str} {px py pe : Pos} {i0 i1 t0 : PySem.Expr} {scope : Scope} {cl : List (Str × Addr)} {pos : Pos} {RR : Value → Addr → Result → Shared → Prop} {I D C T : Addr} {oI oC oT : Obj} {l : List (Addr × Obj)} {mc : Str → Option Value}
/-- the list and the namespace of a block without cells are laid behind the heap -/
theorem inner_local {it : Value} (hc : ∀ z ∈ scope.names, z.2 ≠ .cell) (hf : scope.kind = .function)
    (h : ∀ D g tk, D = s.heap.objs.size → (∀ b o, s.heap.get? b = some o → g.get? b = some o) → g.get? D = some (lst []) → g.Ns (D + 1) (fun _ => none) →
      codeAny (model prog w) A (.compStart (.ListComp elt gens scope pos) 0 it (.ref D) (compEnvC scope cl (D + 1) env)) (RR (.ref D) (D + 1)) { s with heap := g, toks := tk }) :
    Inner prog w A E env elt gens scope cl pos RR it s := by
  refine wpAny_newObj_type (wpAny_newFunctionEnv hc (fun _ q => nomatch q) (fun g ns b => ?_) hf)
  have e : (s.heap.push { cls := .type "list", data := .seq #[] }).objs.size = s.heap.objs.size + 1 := Heap.size_push ..
  have keep : ∀ a o, @LT.lt Nat _ a (s.heap.objs.size + 1) → (s.heap.push { cls := .type "list", data := .seq #[] }).get? a = some o → g.get? a = some o := fun a o la q => b.extBut a o (Nat.ne_of_lt (e ▸ la)) (Heap.get?_push_of_some _ q)
  dsimp only at ns ⊢
  rw [e] at ns ⊢
  exact h _ g _ rfl (fun a o q => keep a o (Nat.lt_succ_of_lt (Heap.lt_size q)) (Heap.get?_push_of_some _ q)) (keep _ _ (Nat.lt_succ_self _) (Heap.get?_push_size _ rfl)) ns
/-- the inner clause runs over a tuple, and its element is its own target: the list takes the tuple's items -/
theorem two_inner {its : Array Value} {ys : List Value} {K : Shared → Prop} {X : Value → Shared → Prop} (hh : A.handled = none) (hf : scope.kind = .function) (hy : scope.names.lookup y = some .local) (hdb : (y == ("__debug__" : Str)) = false)
    (F : Fr h₀ L s.heap m) (N : News h₀ L s.heap ((T, oT) :: (I, oI) :: (C, oC) :: (D, lst ys) :: l)) (q : TupAt T its [(T, oT)]) (hC : NsObj oC mc) (far : Far h₀ L I D C) (lT : AllLt T ((I, oI) :: (C, oC) :: (D, lst ys) :: l)) (offC : ∀ p ∈ l, p.1 ≠ C) (offD : ∀ p ∈ l, p.1 ≠ D)
    (hz : ys.length + its.size ≤ sizeLine) (post : ∀ g tk mc, Fr h₀ L g m → g.Ns C mc → News h₀ L g ((D, lst (ys ++ its.toList)) :: (I, oI) :: l) → K { s with heap := g, toks := tk }) :
    wpAny (model prog w) A (pyIter (.ref T)) (fun it => codeAny (model prog w) A (.compStart (two (.Name y pe) t0 i0 (.Name y py) i1 scope pos) 1 it (.ref D) (compEnvC scope cl C env)) fun | .ok _ => K | .error e => X e) E s := by
  have NT : News h₀ L s.heap [(T, oT)] := fun p hp => N p (List.mem_singleton.mp hp ▸ .head _)
  refine wpAny_pyIter_tuple (q.tuple NT) ?_
  obtain ⟨_, F₁, N₁, lJ, j0, outJ, _⟩ := laid_iter F N { cls := .type "tuple_iterator", data := .fields #[.ref T, .int 0 0] }
  have W := Walks.tuple (prog := prog) (w := w) hh s.heap.objs.size T (Nat.ne_of_lt (q.below NT)) its
  have CJ := outJ (C, oC) (.tail _ (.tail _ (.head _)))
  have DJ := outJ (D, lst ys) (.tail _ (.tail _ (.tail _ (.head _))))
  have CT : C ≠ T := Nat.ne_of_lt lT.2.1
  have DT : D ≠ T := Nat.ne_of_lt lT.2.2.1
  have offJ : ∀ (zs : List Value), ∀ p ∈ (D, lst zs) :: (I, oI) :: l, p.1 ≠ s.heap.objs.size := fun _ => List.forall_mem_cons.mpr ⟨DJ, List.forall_mem_cons.mpr ⟨outJ _ (.tail _ (.head _)), fun p hp => outJ p (.tail _ (.tail _ (.tail _ (.tail _ hp))))⟩⟩
  have st₀ : (s.heap.push { cls := .type "tuple_iterator", data := .fields #[.ref T, .int 0 0] }).IsTupleIter s.heap.objs.size T 0 ∧ (s.heap.push { cls := .type "tuple_iterator", data := .fields #[.ref T, .int 0 0] }).IsTuple T its :=
    ⟨⟨_, Heap.get?_push_size _ rfl, rfl, rfl⟩, (q.tuple NT).at fun _ => Heap.get?_push_of_some _⟩
  have loop : codeAny (model prog w) A (.compLoop (two (.Name y pe) t0 i0 (.Name y py) i1 scope pos) 1 (.ref s.heap.objs.size) (.ref D) (compEnvC scope cl C env)) (fun | .ok _ => K | .error e => X e) { s with heap := s.heap.push { cls := .type "tuple_iterator", data := .fields #[.ref T, .int 0 0] } } := by
    refine loop_in (fun k s' => ∃ g tk j mc, s' = { s with heap := g, toks := tk } ∧ k + j = its.size + 1 ∧ j ≤ its.size ∧ (g.IsTupleIter s.heap.objs.size T j ∧ g.IsTuple T its) ∧ Fr h₀ L g m ∧ g.Ns C mc ∧ News h₀ L g ((D, lst (ys ++ its.toList.take j)) :: (I, oI) :: l)) (fun k s' J => ?_) (its.size + 1)
      ⟨_, _, 0, mc, rfl, rfl, Nat.zero_le _, st₀, F₁, hC.ns (N₁ _ (.tail _ (.tail _ (.head _)))).1, List.forall_mem_cons.mpr ⟨by rw [List.take_zero, List.append_nil]; exact N₁ _ (.tail _ (.tail _ (.tail _ (.head _)))), List.forall_mem_cons.mpr ⟨N₁ _ (.tail _ (.head _)), fun p hp => N₁ p (.tail _ (.tail _ (.tail _ (.tail _ hp))))⟩⟩⟩
    refine Classical.byContradiction fun no => ?_
    obtain ⟨g, tk, j, mc, rfl, hk, hj, st, F, ns, N⟩ := J
    refine no ?_
    clear no
    have hJ : C ∉ [s.heap.objs.size] := fun h => CJ (List.mem_singleton.mp h)
    rcases Nat.lt_or_eq_of_le hj with lt | rfl
    · refine W.item j _ _ _ lt st fun v g₁ tk₁ hv st₁ k₁ => wpAny_pure (wpAny_assign_Name (wpAny_storeName_local (lookup_relabel_local hy) (ns.at' fun o => k₁ C o hJ) (fun g₂ ns₂ b₂ => ?_) (by rw [show (compEnvC scope cl C env).scope.kind = _ from hf]; rfl)))
      refine wpAny_Name (wpAny_loadName_local (v := v) hf (lookup_relabel_local hy) ns₂ (if_pos rfl) ?_) hdb
      have N₂ := news_by (news_but N k₁ (offJ _)) b₂ (List.forall_mem_cons.mpr ⟨far.dc, List.forall_mem_cons.mpr ⟨far.ic, offC⟩⟩)
      refine append_at (N₂ _ (.head _)).1 (fun g₃ b₃ e₃ => ?_) (by rw [List.size_toArray, List.length_append]; have := List.length_take_le j its.toList; omega)
      have e : lst ((ys ++ its.toList.take j) ++ [v]) = lst (ys ++ its.toList.take (j + 1)) := by rw [List.take_add_one, Array.getElem?_toList, hv, List.append_assoc]; rfl
      exact ⟨its.size - j, by omega, g₃, _, j + 1, _, rfl, by omega, lt, ⟨(st₁.1.at fun o => b₂.extBut _ o CJ.symm).at fun o => b₃.extBut _ o DJ.symm, (st₁.2.at fun o => b₂.extBut _ o CT.symm).at fun o => b₃.extBut _ o DT.symm⟩, ((fr_but F k₁ lJ j0).change b₂ far.cl far.c0).change b₃ far.dl far.d0,
        ns₂.sameBut b₃ far.dc.symm, N₂.setHead (List.forall_mem_cons.mpr ⟨far.id, offD⟩) b₃ (e₃.trans (congrArg some ((lst_snoc _ v).trans e)))⟩
    · refine W.done _ _ _ st fun g₁ tk₁ k₁ => post g₁ tk₁ mc (fr_but F k₁ lJ j0) (ns.at' fun o => k₁ C o hJ) ?_
      rw [← Array.length_toList, List.take_length] at N
      exact news_but N k₁ (offJ _)
  exact start_in loop (W.self 0 _ _ _ st₀ loop)
/-- what the inner clause's iterable gives: a fresh tuple of the two numbers -/
noncomputable def TupEnd (h₀ : Heap) (L : Addr) (m : Str → Option Value) (s : Shared) (a b : Int) (l : List (Addr × Obj)) (v : Value) (s' : Shared) : Prop :=
  ∃ T g tk u u', v = .ref T ∧ s' = { s with heap := g, toks := tk } ∧ Fr h₀ L g m ∧ News h₀ L g ((T, { cls := .type "tuple", data := .seq #[.int a u, .int b u'] }) :: l) ∧ AllLt T l
theorem TupEnd.intro {a b a' b' : Int} {g : Heap} {tk : Nat} {u u' : Tok} (F : Fr h₀ L g m) (N : News h₀ L g ((T, { cls := .type "tuple", data := .seq #[.int a' u, .int b' u'] }) :: l)) (lT : AllLt T l) (ea : a' = a) (eb : b' = b) :
    TupEnd h₀ L m s a b l (.ref T) { s with heap := g, toks := tk } := ⟨T, g, tk, u, u', rfl, rfl, F, ea ▸ eb ▸ N, lT⟩
/-- a list of numbers, each of which gives two: `[y for x in i0 for y in i1]` -/
theorem Ready.clauses {ax : Addr} {vs : List Value} {ns : List Int} {Fin : Shared → List Value → List (Addr × Obj) → Prop} (f g : Int → Int) (p : Int → Prop) (hh : A.handled = none) (F : Fr h₀ L s.heap m) (N : News h₀ L s.heap l) (q : LstAt ax vs.toArray l) (hv : IntsAre vs ns) (hz : ns.length ≤ 1000) (hp : ∀ n ∈ ns, p n)
    (hc : ∀ z ∈ scope.names, z.2 ≠ .cell) (hf : scope.kind = .function) (hx : scope.names.lookup x = some .local) (hy : scope.names.lookup y = some .local) (hdb : (y == ("__debug__" : Str)) = false) (hs : ∀ C z, foldedSetIterable i1 (compEnvC scope cl C env) z = pure z)
    (hT : ∀ g' n t I oI C oC D oD m₂ h tk (E' : Value → Shared → Prop), p n → NsObj oC m₂ → m₂ x = some (.int n t) → Fr h₀ L h m → News h₀ L h ((I, oI) :: (C, oC) :: (D, oD) :: l) →
      wpAny (model prog w) A (eval i1 (compEnvC scope cl C env)) (TupEnd h₀ L m { s with heap := g' } (f n) (g n) ((I, oI) :: (C, oC) :: (D, oD) :: l)) E' { s with heap := h, toks := tk })
    (fin : ∀ g' ys, IntsAre ys (ns.flatMap fun n => [f n, g n]) → Fin { s with heap := g' } ys l) : Ready prog w A E h₀ L m env (.Name y pe) [⟨.Name x px, i0, [], 0⟩, ⟨.Name y py, i1, [], 0⟩] scope cl pos Fin (.ref ax) s := fun RR G => by
  refine wpAny_pyIter_list (q.list N) ?_
  obtain ⟨k, F₁, N₁, hL, h0, out, lt⟩ := laid_iter F N { cls := .type "list_iterator", data := .fields #[.ref ax, .int 0 0] }
  refine inner_local hc hf fun D g₁ tk₁ hD kg gD gC => ?_
  have W := Walks.list (prog := prog) (w := w) hh s.heap.objs.size ax (Nat.ne_of_lt (q.below N)) vs.toArray
  have lI : @LT.lt Nat _ s.heap.objs.size D := hD ▸ lt
  have far : Far h₀ L s.heap.objs.size D (D + 1) := far_of F₁ lI hL h0 (Nat.lt_trans F.ns.lt lI) (Nat.lt_succ_self D)
  have lN : ∀ p ∈ l, @LT.lt Nat _ p.1 D := fun p hp => hD ▸ Heap.lt_size (N₁ p hp).1
  have offD : ∀ p ∈ l, p.1 ≠ D := fun p hp => Nat.ne_of_lt (lN p hp)
  have offC : ∀ p ∈ l, p.1 ≠ D + 1 := fun p hp => Nat.ne_of_lt (Nat.lt_succ_of_lt (lN p hp))
  have offI : ∀ zs : List Value, ∀ p ∈ (D, lst zs) :: l, p.1 ≠ s.heap.objs.size := fun _ => List.forall_mem_cons.mpr ⟨far.id.symm, out⟩
  have hI : D + 1 ∉ [s.heap.objs.size] := fun h => far.ic (List.mem_singleton.mp h).symm
  have st₀ : g₁.IsListIter s.heap.objs.size ax 0 ∧ g₁.IsList ax vs.toArray := ⟨⟨_, kg _ _ (Heap.get?_push_size _ rfl), rfl, rfl⟩, q.list (N₁.keeps kg)⟩
  have loop : codeAny (model prog w) A (.compLoop (two (.Name y pe) (.Name x px) i0 (.Name y py) i1 scope pos) 0 (.ref s.heap.objs.size) (.ref D) (compEnvC scope cl (D + 1) env)) (RR (.ref D) (D + 1)) { s with heap := g₁, toks := tk₁ } := by
    refine loop_out (fun k s' => ∃ g₂ tk i ys mc, s' = { s with heap := g₂, toks := tk } ∧ k + i = vs.length + 1 ∧ i ≤ vs.length ∧ g₂.IsListIter s.heap.objs.size ax i ∧ Fr h₀ L g₂ m ∧ g₂.Ns (D + 1) mc ∧ News h₀ L g₂ ((D, lst ys) :: l) ∧ IntsAre ys ((ns.take i).flatMap fun n => [f n, g n]) ∧ ys.length = 2 * i) (fun k s' J => ?_) (vs.length + 1)
      ⟨g₁, tk₁, 0, [], _, rfl, rfl, Nat.zero_le _, st₀.1, F₁.keeps kg, gC, List.forall_mem_cons.mpr ⟨⟨gD, far.dl, far.d0⟩, N₁.keeps kg⟩, .nil, rfl⟩ (hs _)
    refine Classical.byContradiction fun no => ?_
    obtain ⟨g₂, tk, i, ys, mc, rfl, hk, hi, st, F, ns', N, hys, hl⟩ := J
    refine no ?_
    clear no
    have ql : g₂.IsList ax vs.toArray := q.list fun p hp => N p (.tail _ hp)
    rcases Nat.lt_or_eq_of_le hi with lt | rfl
    · refine W.item i _ _ _ (by rw [List.size_toArray]; exact lt) ⟨st, ql⟩ fun v g₃ tk₃ hv' st₃ k₃ => wpAny_pure ?_
      refine Classical.byContradiction fun no => ?_
      obtain ⟨n, t, rfl, hn⟩ := hv.at i v (by rw [List.getElem?_toArray] at hv'; exact hv')
      obtain ⟨oI, eI, rI⟩ := st₃.1
      refine no ?_
      clear no
      refine wpAny_assign_Name (wpAny_storeName_local (lookup_relabel_local hx) (ns'.at' fun o => k₃ _ o hI) (fun g₄ ns₄ b₄ => ?_) (by rw [show (compEnvC scope cl (D + 1) env).scope.kind = _ from hf]; rfl))
      refine Classical.byContradiction fun no => ?_
      obtain ⟨oC, eC, hC⟩ := ns_obj ns₄
      refine no ?_
      clear no
      have F₄ := (fr_but F k₃ far.li far.i0).change b₄ far.cl far.c0
      have N₄ : News h₀ L g₄ ((s.heap.objs.size, oI) :: (D + 1, oC) :: (D, lst ys) :: l) := List.forall_mem_cons.mpr ⟨⟨b₄.extBut _ _ far.ic eI, far.li.symm, far.i0⟩, List.forall_mem_cons.mpr ⟨⟨eC, far.cl, far.c0⟩, news_by (news_but N k₃ (offI _)) b₄ (List.forall_mem_cons.mpr ⟨far.dc, offC⟩)⟩⟩
      refine wpAny_mono (hT s.heap n t _ oI _ oC D (lst ys) _ g₄ _ _ (hp n (List.mem_of_getElem? hn)) hC (if_pos rfl) F₄ N₄) (fun vT s₅ z => ?_) fun _ _ => id
      refine Classical.byContradiction fun no => ?_
      obtain ⟨T, g₅, tk₅, u, u', rfl, rfl, F₅, N₅, lT⟩ := z
      refine no ?_
      clear no
      refine two_inner hh hf hy hdb F₅ N₅ ⟨_, .head _, rfl, _, rfl⟩ hC far lT offC offD (by show ys.length + 2 ≤ sizeLine; rw [PySem.sizeLine_eq]; have := hv.length; omega) fun g₆ tk₆ mc₆ F₆ ns₆ N₆ => ?_
      refine ⟨vs.length - i, by omega, g₆, tk₆, i + 1, _, mc₆, rfl, by omega, lt, ⟨oI, (N₆ _ (.tail _ (.head _))).1, rI⟩, F₆, ns₆, fun p hp => N₆ p ((List.mem_cons.mp hp).elim (fun e => e ▸ .head _) fun e => .tail _ (.tail _ e)), ?_, by rw [List.length_append, hl]; rfl⟩
      rw [List.take_add_one, hn, List.flatMap_append]
      exact hys.append (.cons _ _ (.cons _ _ .nil))
    · refine W.done _ _ _ (by rw [List.size_toArray]; exact ⟨st, ql⟩) fun g₃ tk₃ k₃ => ?_
      rw [hv.length, List.take_length] at hys
      exact G _ D (D + 1) g₃ tk₃ mc ys l (fr_but F k₃ far.li far.i0) (news_but N k₃ (offI _)) (off1_of offD) (ns'.at' fun o => k₃ _ o hI) far.c0 far.cl far.dc.symm offC (fin s.heap ys hys)
  exact codeAny_compStart_list loop (W.self 0 _ _ _ st₀ loop)
end
end
local macro_rules | `(tactic| k_ne) => `(tactic| (refine neN ?_; (try dsimp only); first | with_reducible assumption | exact Ne.symm (by with_reducible assumption) | exact Nat.succ_ne_self _ | exact Ne.symm (Nat.succ_ne_self _) | (((repeat (with_reducible rename (And _ _) => hA; first | exact Nat.ne_of_lt hA.1 | exact Nat.ne_of_lt' hA.1 | exact Nat.ne_of_lt hA.2.1 | exact Nat.ne_of_lt' hA.2.1 | exact Nat.ne_of_lt hA.2.2.1 | exact Nat.ne_of_lt' hA.2.2.1 | exact Nat.ne_of_lt hA.2.2.2.1 | exact Nat.ne_of_lt' hA.2.2.2.1 | exact Nat.ne_of_lt hA.2.2.2.2.1 | exact Nat.ne_of_lt' hA.2.2.2.2.1 | exact Nat.ne_of_lt hA.2.2.2.2.2.1 | exact Nat.ne_of_lt' hA.2.2.2.2.2.1 | exact Nat.ne_of_lt hA.2.2.2.2.2.2.1 | exact Nat.ne_of_lt' hA.2.2.2.2.2.2.1 | exact Nat.ne_of_lt hA.2.2.2.2.2.2.2.1 | exact Nat.ne_of_lt' hA.2.2.2.2.2.2.2.1 | clear hA))); done) | ((repeat (with_reducible rename (And _ _) => hAnd; cases hAnd)); first | with_reducible assumption | exact Ne.symm (by with_reducible assumption) | assumption | exact Ne.symm (by assumption) | omega)))
local macro_rules | `(tactic| k_all) => `(tactic| with_reducible assumption)
local macro_rules | `(tactic| walk_at "one") => `(tactic| (first | (k_unfold; (try dsimp only)) | (k_end; wrow_close) | walk1 | (dsimp only; walk1) | (leave1; try dsimp only)))
section
open PySem PySem.W PySem.Calls PyProof.Rows PySem.Spec
set_option compiler.extract_closed false
variable {w : World} {mean : ExcName → Option Value} {mg mb : Str → Option Value}
noncomputable def bL : List Int := [65024, 65025, 65026, 65027, 65028, 65029, 6150, 65030, 65031, 65032, 65033, 6155, 6156, 6157, 8203, 8204, 8205, 65034, 65035, 65036, 65037, 65038, 65039, 173, 847, 8288, 65279]
noncomputable def keyI : Int × Value → Int | (_, .int k _) => k | _ => 0
noncomputable def intsOk (es : List (Int × Value)) : Bool := es.all fun e => match e.2 with | .int k _ => e.1 == hashInt k | _ => false
theorem ints_get {es : List (Int × Value)} (h : intsOk es = true) {e : Int × Value} (he : e ∈ es) : ∃ k t, e = (hashInt k, .int k t) := by
  have := List.all_eq_true.mp h e he
  obtain ⟨hh, v⟩ := e
  cases v with
  | int k t => exact ⟨k, t, congrArg (·, Value.int k t) (beq_iff_eq.mp this)⟩
  | _ => cases this
theorem elems_of {prog : Program} {es : List (Int × Value)} (h : intsOk es = true) : ElemsOf (PySem.intKind prog w) es := by
  intro e he
  obtain ⟨k, t, rfl⟩ := ints_get h he
  exact ⟨⟨k, by show (k == k) = true; exact beq_self_eq_true k, rfl⟩, rfl⟩
noncomputable def setO (P : Params) : Obj := ((KW P).lookup 43).getD default
theorem set_is (P : Params) : (KW P).lookup 43 = some (setO P) := rfl
noncomputable def setEs (P : Params) : List (Int × Value) := match (setO P).data with | .set es _ _ => es.toList | _ => []
noncomputable def b1 (k : Int) : Bool := bL.contains k
theorem set_ok (P : Params) : intsOk (setEs P) = true := by kernel_rfl
theorem set_map (P : Params) : (setEs P).map keyI = bL := by kernel_rfl
theorem set_len (P : Params) : (setEs P).length = 27 := by kernel_rfl
theorem set_of (w : World) : Obj.SetObjOf (PySem.intKind pw w) (setO w.params) b1 27 := by
  refine ⟨⟨rfl, rfl, rfl⟩, (setEs w.params).toArray, _, _, rfl, elems_of (set_ok w.params), fun k => ?_, (set_len w.params), by rfl⟩
  unfold b1
  rw [List.contains_iff_mem, ← set_map w.params, List.mem_map]
  constructor
  · rintro ⟨e, he, rfl⟩
    obtain ⟨k, t, rfl⟩ := ints_get (set_ok w.params) he
    exact ⟨_, he, by show (k == k) = true; exact beq_self_eq_true k⟩
  · rintro ⟨e, he, hk⟩
    obtain ⟨k', t, rfl⟩ := ints_get (set_ok w.params) he
    exact ⟨_, he, (beq_iff_eq.mp hk).symm ▸ rfl⟩
theorem in_b1 {A : Around} {E Q : Value → Shared → Prop} {s : Shared} {h₀ : Heap} {L : Addr} {m : Str → Option Value} {k : Int} {t : Tok} (F : Fr h₀ L s.heap m) (X : (KW w.params).In h₀)
    (h : Q (.bool (b1 k)) { s with toks := s.toks + 1 }) : wpAny (model pw w) A (compareOp .In (.int k t) (.ref 43)) Q E s :=
  wpAny_inSet_of (knd := PySem.intKind pw w) (k := k) (by show (k == k) = true; exact beq_self_eq_true k) rfl ((set_of w).setOf (X.keeps F.keep _ _ (set_is _)) (by decide)) h
noncomputable def chS (n : Nat) : Str := ⟨⟨[n]⟩⟩
set_option maxHeartbeats 4000000 in
theorem c_b1 (n : Nat) (t : Tok) : ClaimK w mean mg mb 53 [] True [.str (chS n) t] (fun _ => .bool (b1 n)) := by
  dsimp only [ClaimK, CbClaim, CbLists, CbRet]
  intro news dp un gd cn cs a ccd cl outer A₀ base h₀ L m s Q E B F X N T hk hpre hd hu hret
  refine wpAny_call ?_
  k_dflt cell_enter
  k_steps
  case' _ => refine in_b1 (by assumption) (by assumption) ?_
  k_steps
  exact cb_retB (Q := Q) hret rfl (by k_asm) (by k_asm)
set_option maxHeartbeats 4000000 in
theorem c_c11 (x : Str) (t : Tok) : ClaimK w mean mg mb 106 [] True [.str x t] (fun _ => .bool (x == Str.ofString " ")) := by
  dsimp only [ClaimK, CbClaim, CbLists, CbRet]
  intro news dp un gd cn cs a ccd cl outer A₀ base h₀ L m s Q E B F X N T hk hpre hd hu hret
  refine wpAny_call ?_
  k_dflt cell_enter
  k_steps
  exact cb_retB (Q := Q) hret rfl (by k_asm) (by k_asm)
noncomputable def b3O : Obj := ⟨.type "dict", none, .dict (Array.mk (dE pw)) 650, [].toArray⟩
theorem b3_is (P : Params) : (KW P).lookup 54 = some b3O := rfl
theorem mkE_val : ∀ (n t : Nat) (ks : List (Option PySem.Expr)) (vs : List PySem.Expr), ∀ e ∈ mkE n t ks vs, ∃ x u, e.val = .str x u
  | 0, t, k :: ks, v :: vs, e, h => by
    unfold mkE at h
    rcases List.mem_cons.mp h with rfl | h
    · exact ⟨_, _, rfl⟩
    · exact mkE_val 0 (t + 2) ks vs e h
  | n + 1, t, k :: ks, v :: vs, e, h => by
    unfold mkE at h
    rcases List.mem_cons.mp h with rfl | h
    · exact ⟨_, _, rfl⟩
    · exact mkE_val n (t + 3) ks vs e h
  | 0, _, [], _, e, h => by unfold mkE at h; cases h
  | n + 1, _, [], _, e, h => by unfold mkE at h; cases h
  | 0, _, _ :: _, [], e, h => by unfold mkE at h; cases h
  | n + 1, _, _ :: _, [], e, h => by unfold mkE at h; cases h
noncomputable def get3 (k : Int) : Option Value := findBy Value.isInt (Array.mk (dE pw)) k
theorem get3_str {k : Int} {v : Value} (h : get3 k = some v) : ∃ x u, v = .str x u := by
  unfold get3 findBy at h
  obtain ⟨e, he, rfl⟩ := Option.map_eq_some_iff.mp h
  have hm : e ∈ dE pw := by have := Array.mem_of_find?_eq_some he; simpa using this
  exact mkE_val _ _ _ _ e hm
noncomputable def b3S (n : Nat) : Str := match get3 n with | some (.str x _) => x | _ => Txt.lower (chS n)
theorem dE_hash : ((dE pw).all fun e => match e.key with | .int k _ => e.hash == hashInt k | _ => false) = true := by
  rw [pw_pq]; kernel_rfl
theorem b3_map {h : Heap} (hg : h.get? 54 = some b3O) : h.MapOf (PySem.intKind pw w) 54 get3 := by
  refine ⟨b3O, Array.mk (dE pw), 650, hg, ⟨rfl, rfl, rfl⟩, rfl, fun e he => ?_, fun k => rfl⟩
  have he' : e ∈ dE pw := by simpa using he
  have := List.all_eq_true.mp dE_hash e he'
  obtain ⟨hh, key, v⟩ := e
  cases key with
  | int k t => exact ⟨k, by show (k == k) = true; exact beq_self_eq_true k, beq_iff_eq.mp this⟩
  | _ => cases this
section
variable {A : Around} {E : Value → Shared → Prop} {s : Shared} {h₀ : Heap} {L : Addr} {m : Str → Option Value} {k : Int} {t : Tok}
theorem get_b3m {pl : Sem Bool} {Q : Value × List Value → Shared → Prop} (F : Fr h₀ L s.heap m) (X : (KW w.params).In h₀) (h : Q (.builtin "dict.get", [.ref 54]) s) : wpAny (model pw w) A (getMethod (.ref 54) (Str.ofString "get") pl) Q E s := by
  have hm : s.heap.MapOf (PySem.intKind pw w) 54 get3 := b3_map (X.keeps F.keep _ _ (b3_is _))
  exact getMethod_builtin hm.typeIs PySem.F.plainAttrs_dict PySem.F.slot_dict_get PySem.F.type_dict_get hm.noDict h
theorem get_b3c {Q : Value → Shared → Prop} (F : Fr h₀ L s.heap m) (X : (KW w.params).In h₀) (h : Q ((get3 k).getD .none) { s with toks := s.toks + 1 }) :
    wpAny (model pw w) A (call (.builtin "dict.get") [.ref 54, .int k t]) Q E s := by
  have hm : s.heap.MapOf (PySem.intKind pw w) 54 get3 := b3_map (X.keeps F.keep _ _ (b3_is _))
  exact call_meetsIn PySem.F.slot_dict_get hm.typeIs PySem.F.entry_dict_get (PySem.F.args_dict_get_2 _ _) (meets_dict_get (PySem.intKind pw w) 54 (k := k) (by show (k == k) = true; exact beq_self_eq_true k) rfl) ⟨_, hm, h⟩
end
set_option maxHeartbeats 4000000 in
theorem c_b3 (n : Nat) (t : Tok) : ClaimK w mean mg mb 99 [] True [.str (chS n) t] (fun u => .str (b3S n) u) := by
  dsimp only [ClaimK, CbClaim, CbLists, CbRet]
  intro news dp un gd cn cs a ccd cl outer A₀ base h₀ L m s Q E B F X N T hk hpre hd hu hret
  refine wpAny_call ?_
  k_dflt cell_enter
  k_steps
  refine get_b3m (by assumption) (by assumption) ?_
  k_steps
  refine get_b3c (by assumption) (by assumption) ?_
  generalize hg : get3 _ = r
  have hl : (chS n).length = 1 := rfl
  cases r with
  | none =>
    dsimp only [Option.getD]
    k_steps
    refine cb_retS (Q := Q) hret ?_ (by k_asm) (by k_asm)
    have hg' : get3 (n : Int) = none := hg
    unfold b3S
    rw [hg']
  | some v =>
    obtain ⟨x, u, rfl⟩ := get3_str hg
    dsimp only [Option.getD]
    k_steps
    refine cb_retS (Q := Q) hret ?_ (by k_asm) (by k_asm)
    have hg' : get3 (n : Int) = some (.str x u) := hg
    unfold b3S
    rw [hg']
end
local macro_rules | `(tactic| walk_at "to while") => `(tactic| repeat' ((fail_if_success (with_reducible show wpAny _ _ (exec (PySem.Stmt.While _ _ _ _) _) _ _ _)); walk_at "one"))
section
open PySem PySem.W PySem.Calls PyProof.Rows PySem.Spec
set_option compiler.extract_closed false
variable {w : World} {mean : ExcName → Option Value} {mg mb : Str → Option Value}
local macro_rules | `(tactic| walk_at "eval Name") => `(tactic| ((with_reducible show wpAny _ _ (eval (PySem.Expr.Name _ _) (envOf _ _ _ _ _)) _ _ _); with_unfolding_all refine ld (by assumption) (by assumption) ?_))
local macro_rules | `(tactic| walk_at "loadName") => `(tactic| ((with_reducible show wpAny _ _ (loadName (envOf _ _ _ _ _) _) _ _ _); with_unfolding_all refine ldn (by assumption) (by assumption) ?_))
/-- a blanks, a letter, b blanks -/
noncomputable def lineS (a c b : Nat) : Str := ⟨⟨List.replicate a 32 ++ c :: List.replicate b 32⟩⟩
noncomputable def LPost (g : Heap) (L : Addr) (s : Shared) (news : List (Addr × Obj)) (φ : (Str → Option Value) → Prop) (f : Flow) (s' : Shared) : Prop :=
  f = .next ∧ ∃ (h' : Heap) (tk' : Nat) (m₁ : Str → Option Value), s' = { s with heap := h', toks := tk' } ∧ Fr g L h' m₁ ∧ News g L h' news ∧ φ m₁
noncomputable def LTurn (g : Heap) (L : Addr) (s : Shared) (news : List (Addr × Obj)) (ψ : Nat → (Str → Option Value) → Prop) (k : Nat) (f : Flow) (s' : Shared) : Prop :=
  match f with
  | .next | .cont => ∃ (h' : Heap) (tk' : Nat) (m₁ : Str → Option Value) (k' : Nat), s' = { s with heap := h', toks := tk' } ∧ Fr g L h' m₁ ∧ News g L h' news ∧ k' < k ∧ ψ k' m₁
  | _ => False
theorem LTurn.intro {g : Heap} {L : Addr} {s : Shared} {news : List (Addr × Obj)} {ψ : Nat → (Str → Option Value) → Prop} {k k' : Nat} {h' : Heap} {tk' : Nat} {m₁ : Str → Option Value} (F : Fr g L h' m₁) (N : News g L h' news) (hk : k' < k) (h : ψ k' m₁) : LTurn g L s news ψ k .next { s with heap := h', toks := tk' } := ⟨h', tk', m₁, k', rfl, F, N, hk, h⟩
theorem LPost.intro {g : Heap} {L : Addr} {s : Shared} {news : List (Addr × Obj)} {φ : (Str → Option Value) → Prop} {h' : Heap} {tk' : Nat} {m₁ : Str → Option Value} (F : Fr g L h' m₁) (N : News g L h' news) (h : φ m₁) : LPost g L s news φ .next { s with heap := h', toks := tk' } := ⟨rfl, h', tk', m₁, rfl, F, N, h⟩
theorem while_lp {prog : Program} {A : Around} {E : Value → Shared → Prop} {Q : Flow → Shared → Prop} {s : Shared} {env : Env} {g : Heap} {L : Addr} {test : PySem.Expr} {body : List Stmt} {pos : Pos} {m : Str → Option Value} {news : List (Addr × Obj)} (k0 : Nat) (ψ : Nat → (Str → Option Value) → Prop) (φ : (Str → Option Value) → Prop)
    (F : Fr g L s.heap m) (N : News g L s.heap news) (h0 : ψ k0 m)
    (turn : ∀ k m₁ h₁ tk₁, Fr g L h₁ m₁ → News g L h₁ news → ψ k m₁ → wpAny (model prog w) A (isTrue test env (eval test env)) (fun b s₂ => if b = true then wpAny (model prog w) A (execs body env) (LTurn g L s news ψ k) E s₂ else LPost g L s news φ .next s₂) E { s with heap := h₁, toks := tk₁ })
    (after : ∀ m₁ h₁ tk₁, Fr g L h₁ m₁ → News g L h₁ news → φ m₁ → Q .next { s with heap := h₁, toks := tk₁ })
    (hE : PassesOwn (model prog w) A env E := by passes_own) :
    wpAny (model prog w) A (exec (.While test body [] pos) env) Q E s := by
  refine wpAny_mono (Q := LPost g L s news φ) ?_ ?_ (fun _ _ x => x)
  · refine While_inv2 (J := fun k m₁ news₁ => news₁ = news ∧ ψ k m₁) (n₀ := k0) F N ⟨rfl, h0⟩ ?_ hE
    rintro k m₁ news₁ h₁ tk₁ F1 N1 ⟨rfl, hψ⟩
    refine wpAny_mono (turn k m₁ h₁ tk₁ F1 N1 hψ) (fun b s₂ h => ?_) (fun _ _ x => x)
    cases b
    · exact h
    · simp only [if_true] at h ⊢
      refine wpAny_mono h (fun f s₃ h₃ => ?_) (fun _ _ x => x)
      cases f with
      | next => obtain ⟨h', tk', m₂, k', e, F2, N2, hk, hp⟩ := h₃; exact ⟨h', tk', m₂, _, k', e, F2, N2, hk, rfl, hp⟩
      | cont => obtain ⟨h', tk', m₂, k', e, F2, N2, hk, hp⟩ := h₃; exact ⟨h', tk', m₂, _, k', e, F2, N2, hk, rfl, hp⟩
      | brk => exact h₃.elim
      | ret v => exact h₃.elim
  · intro f s' hJ0
    refine Classical.byContradiction fun hG9 => ?_
    obtain ⟨rfl, h', tk', m₁, rfl, F1, N1, h⟩ := hJ0
    refine hG9 ?_
    clear hG9
    exact after m₁ h' tk' F1 N1 h
noncomputable def letts : List Nat := [114, 103, 98]
theorem item_all : (letts.all fun c => (List.range 5).all fun a => (List.range 5).all fun b => (List.range 9).all fun i => decide (a + b < i) || ((Txt.item (lineS a c b) (i : Int) == Str.ofString " ") == (i != a))) = true := by decide +kernel
theorem item_eq {a c b i : Nat} (hc : c ∈ letts) (ha : a ≤ 4) (hb : b ≤ 4) (hi : i ≤ a + b) : (Txt.item (lineS a c b) (i : Int) == Str.ofString " ") = (i != a) := by
  have h := item_all
  simp only [List.all_eq_true, List.mem_range, Bool.or_eq_true, decide_eq_true_eq, beq_iff_eq (α := Bool)] at h
  exact (h c hc a (by omega) b (by omega) i (by omega)).resolve_left (by omega)
theorem slice_all : (letts.all fun c => (List.range 5).all fun a => (List.range 5).all fun b => (List.range 9).all fun n => Txt.slice (lineS a c b) (some ((min a n : Nat) : Int)) (some (((a + b - min b (n - a) : Nat) : Int) + 1)) == lineS (a - n) c (b - (n - a))) = true := by decide +kernel
theorem slice_eq {a c b n : Nat} (hc : c ∈ letts) (ha : a ≤ 4) (hb : b ≤ 4) (hn : n ≤ 8) : Txt.slice (lineS a c b) (some ((min a n : Nat) : Int)) (some (((a + b - min b (n - a) : Nat) : Int) + 1)) = lineS (a - n) c (b - (n - a)) := by
  have h := slice_all
  simp only [List.all_eq_true, List.mem_range] at h
  exact eq_of_beq (h c hc a (by omega) b (by omega) n (by omega))
set_option maxHeartbeats 8000000 in
theorem c_strip (a₀ c b₀ : Nat) (n : Nat) (t t' : Tok) : ClaimK w mean mg mb 35 [] (c ∈ letts ∧ a₀ ≤ 4 ∧ b₀ ≤ 4 ∧ n ≤ 8) [.str (lineS a₀ c b₀) t, .int n t'] (fun u => .str (lineS (a₀ - n) c (b₀ - (n - a₀))) u) := by
  dsimp only [ClaimK, CbClaim, CbLists, CbRet]
  intro news dp un gd cn cs a ccd cl outer A₀ base h₀ L m s Q E B F X N T hk hpre hd hu hret
  refine Classical.byContradiction fun hG9 => ?_
  obtain ⟨hcL, ha4, hb4, hn8⟩ := hpre
  refine hG9 ?_
  clear hG9
  refine wpAny_call ?_
  k_dflt cell_enter
  rename_i g1 L1 hp1 FG1 F1 N1 B1 X1 T1
  walk_at "to while"
  rename Fr g1 L1 _ _ => F2
  rename News g1 L1 _ news => N2
  obtain ⟨m0, F0, hs, ha, tl, hl⟩ : ∃ m0, Fr g1 L1 _ m0 ∧ m0 (Str.ofString "s") = some (.str (lineS a₀ c b₀) t) ∧ m0 (Str.ofString "amount") = some (.int n t') ∧ ∃ tl, m0 (Str.ofString "lpos") = some (.int 0 tl) := ⟨_, F2, rfl, rfl, _, rfl⟩
  clear F2
  have hlen : (lineS a₀ c b₀).length = a₀ + (b₀ + 1) := by
    show (List.replicate a₀ 32 ++ c :: List.replicate b₀ 32).length = _
    simp
  refine while_lp n (fun k m₁ => ∃ (i : Nat) (tl ta : Tok), m₁ (Str.ofString "lpos") = some (.int i tl) ∧ m₁ (Str.ofString "amount") = some (.int ((n - i : Nat) : Int) ta) ∧ m₁ (Str.ofString "s") = some (.str (lineS a₀ c b₀) t) ∧ i ≤ a₀ ∧ i ≤ n ∧ k = n - i)
    (fun m₁ => ∃ (tl ta : Tok), m₁ (Str.ofString "lpos") = some (.int (min a₀ n : Nat) tl) ∧ m₁ (Str.ofString "amount") = some (.int ((n - min a₀ n : Nat) : Int) ta) ∧ m₁ (Str.ofString "s") = some (.str (lineS a₀ c b₀) t)) F0 N2 ⟨0, tl, t', hl, ha, hs, Nat.zero_le _, Nat.zero_le _, rfl⟩ ?_ ?_
  · clear F0 N2 hs ha hl m0
    intro k m₁ h₁ tk₁ F1 N1 hJ0
    refine Classical.byContradiction fun hG9 => ?_
    obtain ⟨i, tl, ta, h1, h2, h3, hia, hin, hk'⟩ := hJ0
    refine hG9 ?_
    clear hG9
    have hfit : (i : Int) < 9 := by omega
    walk_at "to while"
    · refine LTurn.intro (k' := n - (i + 1)) (by assumption) (by assumption) (by omega) ⟨i + 1, _, _, (by rw [show ((i + 1 : Nat) : Int) = (i : Int) + 1 from rfl]; with_unfolding_all rfl), (by rw [show ((n - (i + 1) : Nat) : Int) = ((n - i : Nat) : Int) - 1 by omega]; with_unfolding_all rfl), (by with_unfolding_all exact h3), ?_, by omega, rfl⟩
      have hx : (Txt.item (lineS a₀ c b₀) (i : Int) == Str.ofString " ") = true := by assumption
      rw [item_eq hcL ha4 hb4 (by omega)] at hx
      have : i ≠ a₀ := by simpa using hx
      omega
    all_goals
      have hi : i = min a₀ n := by
        first
        | omega
        | (have hx : (Txt.item (lineS a₀ c b₀) (i : Int) == Str.ofString " ") = false := by assumption
           rw [item_eq hcL ha4 hb4 (by omega)] at hx
           have : i = a₀ := by simpa using hx
           omega)
      subst hi
      exact LPost.intro (by assumption) (by assumption) ⟨_, _, h1, h2, h3⟩
  · clear F0 N2 hs ha hl m0
    intro m₁ h₁ tk₁ F1 N1 hJ0
    refine Classical.byContradiction fun hG9 => ?_
    obtain ⟨tl, ta, h1, h2, h3⟩ := hJ0
    refine hG9 ?_
    clear hG9
    walk_at "to while"
    rename Fr g1 L1 _ _ => F2
    rename News g1 L1 _ news => N2
    obtain ⟨m0, F0, hl, ha, hs, tr, hr⟩ : ∃ m0, Fr g1 L1 _ m0 ∧ m0 (Str.ofString "lpos") = some (.int (min a₀ n : Nat) tl) ∧ m0 (Str.ofString "amount") = some (.int ((n - min a₀ n : Nat) : Int) ta) ∧ m0 (Str.ofString "s") = some (.str (lineS a₀ c b₀) t) ∧ ∃ tr, m0 (Str.ofString "rpos") = some (.int ((lineS a₀ c b₀).length - 1) tr) := ⟨_, F2, h1, h2, h3, _, rfl⟩
    clear F2 h1 h2 h3
    rw [hlen] at hr
    refine while_lp (n - a₀) (fun k m₁ => ∃ (j : Nat) (tr ta : Tok), m₁ (Str.ofString "lpos") = some (.int (min a₀ n : Nat) tl) ∧ m₁ (Str.ofString "rpos") = some (.int ((a₀ + b₀ - j : Nat) : Int) tr) ∧ m₁ (Str.ofString "amount") = some (.int ((n - a₀ - j : Nat) : Int) ta) ∧ m₁ (Str.ofString "s") = some (.str (lineS a₀ c b₀) t) ∧ j ≤ b₀ ∧ j ≤ n - a₀ ∧ k = n - a₀ - j)
      (fun m₁ => ∃ (tr : Tok), m₁ (Str.ofString "lpos") = some (.int (min a₀ n : Nat) tl) ∧ m₁ (Str.ofString "rpos") = some (.int ((a₀ + b₀ - min b₀ (n - a₀) : Nat) : Int) tr) ∧ m₁ (Str.ofString "s") = some (.str (lineS a₀ c b₀) t)) F0 N2 ⟨0, tr, ta, hl, (by rw [hr]; congr 2; omega), (by rw [ha]; congr 2; omega), hs, Nat.zero_le _, Nat.zero_le _, rfl⟩ ?_ ?_
    · clear F0 N2 hs ha hl hr m0
      intro k m₁ h₁ tk₁ F1 N1 hJ0
      refine Classical.byContradiction fun hG9 => ?_
      obtain ⟨j, tr, ta, h1, h2, h3, h4, hia, hin, hk'⟩ := hJ0
      refine hG9 ?_
      clear hG9
      have hfit : (((a₀ + b₀ - j : Nat) : Int)) < 9 := by omega
      walk_at "to while"
      · have hx : (Txt.item (lineS a₀ c b₀) ((a₀ + b₀ - j : Nat) : Int) == Str.ofString " ") = true := by assumption
        rw [item_eq hcL ha4 hb4 (by omega)] at hx
        have : a₀ + b₀ - j ≠ a₀ := by simpa using hx
        refine LTurn.intro (k' := n - a₀ - (j + 1)) (by assumption) (by assumption) (by omega) ⟨j + 1, _, _, (by with_unfolding_all exact h1), (by rw [show ((a₀ + b₀ - (j + 1) : Nat) : Int) = ((a₀ + b₀ - j : Nat) : Int) - 1 by omega]; with_unfolding_all rfl), (by rw [show ((n - a₀ - (j + 1) : Nat) : Int) = ((n - a₀ - j : Nat) : Int) - 1 by omega]; with_unfolding_all rfl), (by with_unfolding_all exact h4), by omega, by omega, rfl⟩
      all_goals
        have hi : j = min b₀ (n - a₀) := by
          first
          | omega
          | (have hx : (Txt.item (lineS a₀ c b₀) ((a₀ + b₀ - j : Nat) : Int) == Str.ofString " ") = false := by assumption
             rw [item_eq hcL ha4 hb4 (by omega)] at hx
             have : a₀ + b₀ - j = a₀ := by simpa using hx
             omega)
        subst hi
        exact LPost.intro (by assumption) (by assumption) ⟨_, h1, h2, h4⟩
    · clear F0 N2 hs ha hl hr m0
      intro m₁ h₁ tk₁ F1 N1 hJ0
      refine Classical.byContradiction fun hG9 => ?_
      obtain ⟨tr, h1, h2, h3⟩ := hJ0
      refine hG9 ?_
      clear hG9
      k_steps
      exact cb_retS (Q := Q) hret (slice_eq hcL ha4 hb4 hn8) (by k_asm) (by k_asm)
end
section
open PySem PySem.W PySem.Calls PyProof.Rows PySem.Spec
set_option compiler.extract_closed false
variable {w : World} {mean : ExcName → Option Value} {mg mb : Str → Option Value}
theorem join8 (n0 n1 n2 n3 n4 n5 n6 n7 : Int) : Txt.join (Str.ofString "") [pieceS n0, pieceS n1, pieceS n2, pieceS n3, pieceS n4, pieceS n5, pieceS n6, pieceS n7] = ⟨(pieceL n0 ++ (pieceL n1 ++ (pieceL n2 ++ (pieceL n3 ++ (pieceL n4 ++ (pieceL n5 ++ (pieceL n6 ++ pieceL n7))))))).toArray⟩ := by
  have he : (Str.ofString "").cps = #[] := rfl
  unfold Txt.join Builtin.Str.glued
  rw [he]
  simp [pieceS]
theorem pieceL_len (n : Int) : (pieceL n).length ≤ 2 := by
  unfold pieceL
  repeat' split
  all_goals (show (_ : Nat) ≤ 2; simp)
theorem text_small (n0 n1 n2 n3 n4 n5 n6 n7 : Int) : (pieceL n0 ++ (pieceL n1 ++ (pieceL n2 ++ (pieceL n3 ++ (pieceL n4 ++ (pieceL n5 ++ (pieceL n6 ++ pieceL n7))))))).toArray.size ≤ sizeLine := by
  rw [PySem.sizeLine_eq, List.size_toArray]
  have := pieceL_len n0
  have := pieceL_len n1
  have := pieceL_len n2
  have := pieceL_len n3
  have := pieceL_len n4
  have := pieceL_len n5
  have := pieceL_len n6
  have := pieceL_len n7
  simp only [List.length_append]
  omega
theorem get3_list (k : Int) : get3 k = ((dE pw).find? fun e => Value.isInt k e.key).map (·.val) := by
  unfold get3 findBy
  rw [List.find?_toArray]
theorem piece_all : ((List.range 18).all fun n => ((pieceL (n : Nat)).filter (fun c : Nat => !b1 c)).map b3S == [(⟨⟨[lettN (n : Nat)]⟩⟩ : Str)]) = true := by
  unfold b3S
  simp only [get3_list]
  rw [pw_pq]
  kernel_rfl
theorem piece_law {n : Int} (h : 0 ≤ n ∧ n < 18) : ((pieceL n).filter (fun c : Nat => !b1 c)).map b3S = [(⟨⟨[lettN n]⟩⟩ : Str)] := by
  have := List.all_eq_true.mp piece_all n.toNat (by rw [List.mem_range]; omega)
  rw [show ((n.toNat : Nat) : Int) = n by omega] at this
  exact eq_of_beq this
theorem lett_join (a b c d e f g h : Nat) : Txt.join (Str.ofString "") [⟨⟨[a]⟩⟩, ⟨⟨[b]⟩⟩, ⟨⟨[c]⟩⟩, ⟨⟨[d]⟩⟩, ⟨⟨[e]⟩⟩, ⟨⟨[f]⟩⟩, ⟨⟨[g]⟩⟩, ⟨⟨[h]⟩⟩] = ⟨⟨[a, b, c, d, e, f, g, h]⟩⟩ := by
  have he : (Str.ofString "").cps = #[] := rfl
  unfold Txt.join Builtin.Str.glued
  rw [he]
  simp
end
local macro_rules | `(tactic| walk_at "CompEnd") => `(tactic| (with_unfolding_all k_dflt (refine CompEnd_G (by k_asm) (by k_asm) (by intro p9 hp9; repeat (first | exact hp9 | refine List.mem_cons_of_mem _ ?_)) (by assumption) (by first | trivial | assumption | lcg_src) ?_)))
local macro_rules | `(tactic| walk_at "eval ListComp") => `(tactic| ((with_reducible show wpAny _ _ (eval (PySem.Expr.ListComp _ [Comprehension.mk _ _ [_] _] _ _) _) _ _ _); k_here; k_dflt (refine door_E (by k_asm) ⟨by with_unfolding_all rfl, by rfl, by decide⟩ (fun _ => by rfl) ?_)))
local macro_rules | `(tactic| walk_at "eval ListComp") => `(tactic| ((with_reducible show wpAny _ _ (eval (PySem.Expr.ListComp _ [Comprehension.mk _ _ [] _] _ _) _) _ _ _); k_here; k_dflt (refine LCg.ListComp_U (F₀ := by k_asm) (by with_unfolding_all rfl) (by decide) (by rfl) (by decide) (by rfl) ?_)))
local macro_rules | `(tactic| walk_at "to ready") => `(tactic| repeat' ((fail_if_success (with_reducible show Ready ..)); walk_at "one"))
local macro_rules | `(tactic| walk_at "to src") => `(tactic| repeat' ((fail_if_success (with_reducible show LCg.CompSrc ..)); walk_at "one"))
section
open PySem PySem.W PySem.Calls PyProof.Rows PySem.Spec
set_option compiler.extract_closed false
variable {w : World} {mean : ExcName → Option Value} {mg mb : Str → Option Value}
open PyProof.Rows.LCg PyProof.Rows.LCt
local macro_rules | `(tactic| walk_at "call ref") => `(tactic| (k_dflt (first | refine' ClaimK.use (c_piece _ _) ?k1 ?k2 ?k3 ?k4 ?k5 ?k6 ?k7 ?k8 ?k9 ?_ | refine' ClaimK.use (c_b1 _ _) ?k1 ?k2 ?k3 ?k4 ?k5 ?k6 ?k7 ?k8 ?k9 ?_ | refine' ClaimK.use (c_b3 _ _) ?k1 ?k2 ?k3 ?k4 ?k5 ?k6 ?k7 ?k8 ?k9 ?_); (case k1 | k2 | k3 | k4 | k5 => k_asm); (case k6 => first | exact rfl | assumption); (case k7 => first | trivial | assumption); (case k8 => ktr_room); (case k9 => ktr_units); intro t9 h9 tk9 F9 N9; (try dsimp only); (try k_fold)))
theorem strs8 {ys : List Value} {a b c d e f g h : Str} (H : StrsAre ys ([a, b, c, d, e, f, g, h])) : ∃ u0 u1 u2 u3 u4 u5 u6 u7, ys = [.str a u0, .str b u1, .str c u2, .str d u3, .str e u4, .str f u5, .str g u6, .str h u7] := by
  refine Classical.byContradiction fun hG => ?_
  obtain ⟨u0, z0, e0, k0⟩ := H.cons_inv
  obtain ⟨u1, z1, e1, k1⟩ := k0.cons_inv
  obtain ⟨u2, z2, e2, k2⟩ := k1.cons_inv
  obtain ⟨u3, z3, e3, k3⟩ := k2.cons_inv
  obtain ⟨u4, z4, e4, k4⟩ := k3.cons_inv
  obtain ⟨u5, z5, e5, k5⟩ := k4.cons_inv
  obtain ⟨u6, z6, e6, k6⟩ := k5.cons_inv
  obtain ⟨u7, z7, e7, k7⟩ := k6.cons_inv
  exact hG ⟨u0, u1, u2, u3, u4, u5, u6, u7, by rw [e0, e1, e2, e3, e4, e5, e6, e7, k7.nil_inv]⟩
theorem strs_of {g : Int → Str} : ∀ {ns : List Int} {vs : List Value}, All2 (fun n v => ∃ t, v = .str (g n) t) ns vs → StrsAre vs (ns.map g)
  | [], [], _ => .nil
  | _ :: _, _ :: _, h => by obtain ⟨⟨t, rfl⟩, h⟩ := h; exact .cons _ t (strs_of h)
  | [], _ :: _, h => h.elim
  | _ :: _, [], h => h.elim
set_option maxHeartbeats 8000000 in
theorem c_word (l : Addr) (n0 n1 n2 n3 n4 n5 n6 n7 : Int) (t0 t1 t2 t3 t4 t5 t6 t7 : Tok) (news : List (Addr × Obj)) : ClaimR 3 w mean mg mb 128 ((l, LCg.lst [.int n0 t0, .int n1 t1, .int n2 t2, .int n3 t3, .int n4 t4, .int n5 t5, .int n6 t6, .int n7 t7]) :: news) ((0 ≤ n0 ∧ n0 < 18) ∧ (0 ≤ n1 ∧ n1 < 18) ∧ (0 ≤ n2 ∧ n2 < 18) ∧ (0 ≤ n3 ∧ n3 < 18) ∧ (0 ≤ n4 ∧ n4 < 18) ∧ (0 ≤ n5 ∧ n5 < 18) ∧ (0 ≤ n6 ∧ n6 < 18) ∧ (0 ≤ n7 ∧ n7 < 18)) [.ref l] (One ((l, LCg.lst [.int n0 t0, .int n1 t1, .int n2 t2, .int n3 t3, .int n4 t4, .int n5 t5, .int n6 t6, .int n7 t7]) :: news) fun u => .str ⟨⟨[lettN n0, lettN n1, lettN n2, lettN n3, lettN n4, lettN n5, lettN n6, lettN n7]⟩⟩ u) := by
  intro dp un gd cn cs a ccd cl outer A₀ base h₀ L m s Q E B F X N T hk hpre hd hu hret
  refine wpAny_call ?_
  k_dflt cell_enter
  rename_i g1 L1 hp1 FG1 F1 N1 B1 X1 T1
  walk_at "to src"
  k_dflt (refine LCg.CompSrc.ledger (by rfl) (by k_asm) (by k_asm) (by k_mem) (by first | size_fits | exact Nat.le_of_ble_eq_true rfl) ?_)
  intro g'
  refine rest_G [n0, n1, n2, n3, n4, n5, n6, n7] (by rfl) (fun n v => ∃ t, v = .int n t) (fun n v => ∃ t, v = .str (pieceS n) t) (hP_list ⟨⟨_, rfl⟩, ⟨_, rfl⟩, ⟨_, rfl⟩, ⟨_, rfl⟩, ⟨_, rfl⟩, ⟨_, rfl⟩, ⟨_, rfl⟩, ⟨_, rfl⟩, trivial⟩) (by lcg_src) ?_ ?_
  · intro k hk v I oI C oC D m₂ ys h tk E' hV hC hx F2 N2 off ne
    obtain ⟨t9, rfl⟩ := hV
    have hk18 : 0 ≤ k ∧ k < 18 := by
      have : ∀ n ∈ [n0, n1, n2, n3, n4, n5, n6, n7], 0 ≤ n ∧ n < 18 := by simpa using hpre
      exact this k hk
    k_steps
    exact .mk ⟨_, rfl⟩
  · intro ys hys
    have hys := strs_of hys
    refine Classical.byContradiction fun hG9 => ?_
    obtain ⟨u0, u1, u2, u3, u4, u5, u6, u7, rfl⟩ := strs8 hys
    refine hG9 ?_
    clear hG9
    have l0 : (pieceS n0).length ≤ 2 := pieceL_len n0
    have l1 : (pieceS n1).length ≤ 2 := pieceL_len n1
    have l2 : (pieceS n2).length ≤ 2 := pieceL_len n2
    have l3 : (pieceS n3).length ≤ 2 := pieceL_len n3
    have l4 : (pieceS n4).length ≤ 2 := pieceL_len n4
    have l5 : (pieceS n5).length ≤ 2 := pieceL_len n5
    have l6 : (pieceS n6).length ≤ 2 := pieceL_len n6
    have l7 : (pieceS n7).length ≤ 2 := pieceL_len n7
    walk_at "to ready"
    k_dflt (refine Ready.text_if (by rfl) (by k_asm) (by k_asm) (by rw [show Txt.join (Str.ofString "") (List.map pieceS [n0, n1, n2, n3, n4, n5, n6, n7]) = _ from join8 n0 n1 n2 n3 n4 n5 n6 n7]; exact text_small _ _ _ _ _ _ _ _) (by decide) (by rfl) (by rfl) ?_)
    intro g'
    refine rest_GT (fun c : Nat => !b1 c) b3S ?_ ?_
    · intro c t I oI C oC D m₂ ys h tk E' hC hx F2 N2 off ne
      k_steps
      · exact .mk (by simp only [*, Bool.not_true])
      · exact .mk ⟨by simp only [*, Bool.not_false], _, rfl⟩
    · intro ys hys
      rw [show Txt.join (Str.ofString "") (List.map pieceS [n0, n1, n2, n3, n4, n5, n6, n7]) = _ from join8 n0 n1 n2 n3 n4 n5 n6 n7] at hys
      rw [show (⟨(pieceL n0 ++ (pieceL n1 ++ (pieceL n2 ++ (pieceL n3 ++ (pieceL n4 ++ (pieceL n5 ++ (pieceL n6 ++ pieceL n7))))))).toArray⟩ : Str).cps.toList = pieceL n0 ++ (pieceL n1 ++ (pieceL n2 ++ (pieceL n3 ++ (pieceL n4 ++ (pieceL n5 ++ (pieceL n6 ++ pieceL n7)))))) from rfl] at hys
      refine Classical.byContradiction fun hG9 => ?_
      obtain ⟨p0, p1, p2, p3, p4, p5, p6, p7⟩ := hpre
      refine hG9 ?_
      clear hG9
      simp only [List.filter_append, List.map_append, piece_law p0, piece_law p1, piece_law p2, piece_law p3, piece_law p4, piece_law p5, piece_law p6, piece_law p7, List.singleton_append, List.cons_append, List.nil_append] at hys
      refine Classical.byContradiction fun hG9 => ?_
      obtain ⟨u0, u1, u2, u3, u4, u5, u6, u7, rfl⟩ := strs8 hys
      refine hG9 ?_
      clear hG9
      have q0 : (⟨⟨[lettN n0]⟩⟩ : Str).length ≤ 2 := Nat.le_succ _
      have q1 : (⟨⟨[lettN n1]⟩⟩ : Str).length ≤ 2 := Nat.le_succ _
      have q2 : (⟨⟨[lettN n2]⟩⟩ : Str).length ≤ 2 := Nat.le_succ _
      have q3 : (⟨⟨[lettN n3]⟩⟩ : Str).length ≤ 2 := Nat.le_succ _
      have q4 : (⟨⟨[lettN n4]⟩⟩ : Str).length ≤ 2 := Nat.le_succ _
      have q5 : (⟨⟨[lettN n5]⟩⟩ : Str).length ≤ 2 := Nat.le_succ _
      have q6 : (⟨⟨[lettN n6]⟩⟩ : Str).length ≤ 2 := Nat.le_succ _
      have q7 : (⟨⟨[lettN n7]⟩⟩ : Str).length ≤ 2 := Nat.le_succ _
      k_steps
      refine cb_retS (Q := Q) (fun t h' tk' F N => hret _ _ h' tk' ⟨t, rfl, rfl⟩ F N) (lett_join _ _ _ _ _ _ _ _) ?e2 ?e3
      case e2 => k_asm
      case e3 => first | k_asm | (refine' cb_drop ?cbN ?cbS; (case cbN => assumption); (case cbS => kcj_all))
end
local macro_rules | `(tactic| walk_at "eval ListComp") => `(tactic| ((with_reducible show wpAny _ _ (eval (PySem.Expr.ListComp _ [Comprehension.mk _ (PySem.Expr.Constant _ _ _) [] _] _ _) _) _ _ _); k_here; k_dflt (refine door_E (by k_asm) ⟨by with_unfolding_all rfl, by rfl, by decide⟩ (fun _ => by rfl) ?_)))
local macro_rules | `(tactic| walk_at "enter cells") => `(tactic| (refine' code_defC ?k1 ?k2 ?k3 ?k4 ?k5 ?kA ?kF ?kK ?k6 ?k7 ?k8 ?k9 ?kB ?kD ?_ ?c2 ?c3 ?c4; (case kA | kF => exact rfl); (case kK => assumption); (case k1 | k2 | k3 | k4 | k5 => k_asm); (case k6 | k7 => k_is); (case k8 => ktr_room); (case k9 => exact BindsTo.of_eq rfl); (case kB => exact rfl); (case kD => decide +kernel); (case c2 | c3 | c4 => exact rfl); k_whole))
section
open PySem PySem.W PySem.Calls PyProof.Rows PySem.Spec
set_option compiler.extract_closed false
variable {w : World} {mean : ExcName → Option Value} {mg mb : Str → Option Value}
open PyProof.Rows.LCg PyProof.Rows.LCt
local macro_rules | `(tactic| walk_at "call ref") => `(tactic| (k_dflt (first | refine' ClaimK.use (c_strip _ _ _ _ _ _) ?k1 ?k2 ?k3 ?k4 ?k5 ?k6 ?k7 ?k8 ?k9 ?_ | refine' ClaimK.use (c_c11 _ _) ?k1 ?k2 ?k3 ?k4 ?k5 ?k6 ?k7 ?k8 ?k9 ?_); (case k1 | k2 | k3 | k4 | k5 => k_asm); (case k6 => first | exact rfl | assumption); (case k7 => first | trivial | assumption); (case k8 => ktr_room); (case k9 => ktr_units); intro t9 h9 tk9 F9 N9; (try dsimp only); (try k_fold)))
local macro_rules | `(tactic| walk_at "eval ListComp") => `(tactic| ((with_reducible show wpAny _ _ (eval (PySem.Expr.ListComp _ [Comprehension.mk _ (PySem.Expr.Call _ _ _ _) [] _] _ _) _) _ _ _); k_here; k_dflt (refine door_E (by k_asm) ⟨by with_unfolding_all rfl, by rfl, by decide⟩ (fun _ => by rfl) ?_)))
theorem cut4a (k0 k1 k2 k3 k4 k5 k6 k7 : Nat) : Txt.slice ⟨⟨[k0, k1, k2, k3, k4, k5, k6, k7]⟩⟩ none (some 4) = ⟨⟨[k0, k1, k2, k3]⟩⟩ := by rfl
theorem cut4b (k0 k1 k2 k3 k4 k5 k6 k7 : Nat) : Txt.slice ⟨⟨[k0, k1, k2, k3, k4, k5, k6, k7]⟩⟩ (some 4) none = ⟨⟨[k4, k5, k6, k7]⟩⟩ := by
  have h : Builtin.Str.strSliceIndices (some 4) none 1 8 = [4, 5, 6, 7] := by decide +kernel
  unfold Txt.slice
  rw [show (⟨⟨[k0, k1, k2, k3, k4, k5, k6, k7]⟩⟩ : Str).length = 8 from rfl, h]
  rfl
noncomputable def cntN (c : Nat) (l : List Nat) : Nat := l.countP (· == c)
theorem cnt_N (c : Nat) : ∀ l : List Nat, cnt c l = (cntN c l : Nat)
  | [] => rfl
  | n :: r => by
    rw [cnt_cons, cnt_N c r]
    unfold cntN
    rw [List.countP_cons]
    by_cases h : n = c <;> simp [h]
    omega
theorem cntN_le (c : Nat) (l : List Nat) : cntN c l ≤ l.length := List.countP_le_length
theorem count4a (c k0 k1 k2 k3 k4 k5 k6 k7 : Nat) : Txt.count (Txt.slice ⟨⟨[k0, k1, k2, k3, k4, k5, k6, k7]⟩⟩ none (some 4)) ⟨#[c]⟩ = (cntN c [k0, k1, k2, k3] : Nat) := by
  rw [cut4a, count_cnt, cnt_N]
theorem count4b (c k0 k1 k2 k3 k4 k5 k6 k7 : Nat) : Txt.count (Txt.slice ⟨⟨[k0, k1, k2, k3, k4, k5, k6, k7]⟩⟩ (some 4) none) ⟨#[c]⟩ = (cntN c [k4, k5, k6, k7] : Nat) := by
  rw [cut4b, count_cnt, cnt_N]
theorem line_all : ((List.range 5).all fun a => Txt.mul (Str.ofString " ") (a : Int) == (⟨⟨List.replicate a 32⟩⟩ : Str)) = true := by decide +kernel
theorem mul_sp {a : Nat} (h : a ≤ 4) : Txt.mul (Str.ofString " ") (a : Int) = (⟨⟨List.replicate a 32⟩⟩ : Str) := eq_of_beq (List.all_eq_true.mp line_all a (by rw [List.mem_range]; omega))
theorem line_eq {a b c : Nat} (ha : a ≤ 4) (hb : b ≤ 4) : Txt.mul (Str.ofString " ") (a : Int) ++ (⟨#[c]⟩ : Str) ++ Txt.mul (Str.ofString " ") (b : Int) = lineS a c b := by
  rw [mul_sp ha, mul_sp hb]
  show (⟨((⟨List.replicate a 32⟩ : Array Nat) ++ #[c]) ++ (⟨List.replicate b 32⟩ : Array Nat)⟩ : Str) = ⟨⟨List.replicate a 32 ++ c :: List.replicate b 32⟩⟩
  simp
theorem line_small {a b c n : Nat} (ha : a ≤ 4) (hb : b ≤ 4) : (lineS (a - n) c (b - (n - a))).cps.size ≤ sizeLine := by
  rw [PySem.sizeLine_eq]
  show (List.replicate (a - n) 32 ++ c :: List.replicate (b - (n - a)) 32).length ≤ _
  rw [List.length_append, List.length_cons, List.length_replicate, List.length_replicate]
  omega
theorem sp_eq (c : Nat) : ((⟨#[c]⟩ : Str) == Str.ofString " ") = (c == 32) := by
  have : Str.ofString " " = ⟨#[32]⟩ := by decide +kernel
  rw [this, Bool.eq_iff_iff, beq_iff_eq, beq_iff_eq]
  constructor
  · intro h; injection h with h; injection h with h; injection h
  · rintro rfl; rfl
theorem line_cnt {a b c : Nat} (hc : c ∈ letts) : ((lineS a c b).cps.toList.filter (fun c : Nat => c == 32)).length = a + b := by
  show ((List.replicate a 32 ++ c :: List.replicate b 32).filter (fun c : Nat => c == 32)).length = a + b
  have h : (c == 32) = false := by
    rcases List.mem_cons.mp hc with rfl | hc
    · rfl
    rcases List.mem_cons.mp hc with rfl | hc
    · rfl
    rcases List.mem_cons.mp hc with rfl | hc
    · rfl
    cases hc
  simp [h]
theorem mul_len {a : Nat} (h : a ≤ 4) : (Txt.mul (Str.ofString " ") (a : Int)).length ≤ 4 := by
  rw [mul_sp h]
  show (List.replicate a 32).length ≤ 4
  rw [List.length_replicate]; exact h
theorem mul_ok {a : Nat} (h : a ≤ 4) : MulOk (Str.ofString " ") (a : Int) := mulOk_of 16 16 (by decide) (by omega) (by omega) (by decide) (by decide)
noncomputable def kept1 (ks : List Nat) (n c : Nat) : Nat := (cntN c (ks.take 4) - n) + (cntN c (ks.drop 4) - (n - cntN c (ks.take 4)))
noncomputable def keptN (ks : List Nat) (n : Nat) : Nat := kept1 ks n 114 + kept1 ks n 103 + kept1 ks n 98
set_option maxHeartbeats 8000000 in
theorem c_kept (k0 k1 k2 k3 k4 k5 k6 k7 : Nat) (t : Tok) (news : List (Addr × Obj)) : ClaimR 3 w mean mg mb 133 news True [.str ⟨⟨[k0, k1, k2, k3, k4, k5, k6, k7]⟩⟩ t] (fun v led => ∃ l vs, v = .ref l ∧ led = (l, lst vs) :: news ∧ All2 (fun n v => ∃ t, v = .int (keptN [k0, k1, k2, k3, k4, k5, k6, k7] n : Nat) t) (List.range 9) vs) := by
  intro dp un gd cn cs a ccd cl outer A₀ base h₀ L m s Q E B F X N T hk hpre hd hu hret
  refine wpAny_call ?_
  k_dflt (walk_at "enter cells")
  intro g1 L1 hp1 tk1 cells1 FG1 F1 N1 Y1 B1 X1 T1 l1
  have c1 : ∀ p ∈ news, p.1 ≠ L1 + 1 := fun p hp => Nat.ne_of_lt (Nat.lt_succ_of_lt (l1 p hp))
  have c2 : ∀ p ∈ news, p.1 ≠ L1 + 1 + 1 := fun p hp => Nat.ne_of_lt (Nat.lt_succ_of_lt (Nat.lt_succ_of_lt (l1 p hp)))
  k_cells Y1
  try simp only [List.cons_append, List.nil_append] at N1
  dsimp only
  k_unmd
  k_fold
  walk_at "to ready"
  refine Ready.text (by rfl) (by k_asm) (by k_asm) (by rw [PySem.sizeLine_eq]; decide) (by decide) (by rfl) (by rfl) ?_
  intro g2
  refine rest_G (Str.ofString "rgb").cps.toList (by rfl) (fun c v => ∃ t, v = .str ⟨#[c]⟩ t) (fun c v => ∃ t, v = .str (lineS (cntN c [k0, k1, k2, k3]) c (cntN c [k4, k5, k6, k7])) t) hP_text trivial ?_ ?_
  · intro c hc v I oI C oC D m₂ ys h tk E' hV hC hx F2 N2 off ne
    obtain ⟨t, rfl⟩ := hV
    have ha : cntN c [k0, k1, k2, k3] ≤ 4 := cntN_le _ _
    have hb : cntN c [k4, k5, k6, k7] ≤ 4 := cntN_le _ _
    have e1 := count4a c k0 k1 k2 k3 k4 k5 k6 k7
    have e2 := count4b c k0 k1 k2 k3 k4 k5 k6 k7
    have m1 := mul_ok ha
    have m2 := mul_ok hb
    have n1 := mul_len ha
    have n2 := mul_len hb
    rw [← e1] at m1 n1
    rw [← e2] at m2 n2
    have n3 : (⟨#[c]⟩ : Str).length ≤ 1 := Nat.le_refl 1
    k_steps
    rw [e1, e2, line_eq ha hb]
    exact .mk ⟨_, rfl⟩
  · intro ys hys
    refine Classical.byContradiction fun hG9 => ?_
    obtain ⟨t1, t2, t3, rfl⟩ := all2_e3 (a := 114) (b := 103) (c := 98) hys
    refine hG9 ?_
    clear hG9
    walk_at "to ready"
    refine Ready.range_cell _ (by rfl) (by k_asm) (by k_asm) (by assumption) (by first | decide | rfl) (by first | rfl | decide) (by first | size_fits | exact Nat.le_of_ble_eq_true rfl) (fun _ => by rfl) (fun _ => by rfl) (by rfl) (by rfl) (fun _ => by rfl) ?_
    intro g3
    refine turns_G (List.range 9) (by rfl) _ (fun n v => ∃ t, v = .int (keptN [k0, k1, k2, k3, k4, k5, k6, k7] n : Nat) t) hP_range ?_ ?_
    · intro n hn v I oI C oC D c oc m₂ ys h tk E' hV hC hx F2 N2 off ne offc
      obtain ⟨t4, rfl⟩ := hV
      rw [List.mem_range] at hn
      rw [Int.zero_add] at hx
      walk_at "to src"
      k_dflt (refine LCg.CompSrc.ledger (by rfl) (by k_asm) (by k_asm) (by k_mem) (by first | size_fits | exact Nat.le_of_ble_eq_true rfl) ?_)
      intro g4
      refine rest_G [114, 103, 98] (by rfl) (fun c v => ∃ t, v = .str (lineS (cntN c [k0, k1, k2, k3]) c (cntN c [k4, k5, k6, k7])) t) (fun c v => ∃ t, v = .int (kept1 [k0, k1, k2, k3, k4, k5, k6, k7] n c : Nat) t) (hP_list ⟨⟨_, rfl⟩, ⟨_, rfl⟩, ⟨_, rfl⟩, trivial⟩) (by lcg_src) ?_ ?_
      · intro q hq v I oI C oC D m₃ ys h tk E' hV hC hx F3 N3 off ne
        obtain ⟨t5, rfl⟩ := hV
        have hpp : q ∈ letts ∧ cntN q [k0, k1, k2, k3] ≤ 4 ∧ cntN q [k4, k5, k6, k7] ≤ 4 ∧ n ≤ 8 := ⟨hq, cntN_le _ _, cntN_le _ _, by omega⟩
        walk_at "to ready"
        k_dflt (refine Ready.text_if (by rfl) (by k_asm) (by k_asm) (line_small hpp.2.1 hpp.2.2.1) (by decide) (by rfl) (by rfl) ?_)
        intro g5
        refine rest_GT (fun c : Nat => c == 32) (fun c => ⟨#[c]⟩) ?_ ?_
        · intro c t I oI C oC D m₂ ys h tk E' hC hx F2 N2 off ne
          k_steps
          · exact .mk ⟨by rw [← sp_eq]; assumption, _, rfl⟩
          · exact .mk (by rw [← sp_eq]; assumption)
        · intro ys hys
          have hl : ys.toArray.size = kept1 [k0, k1, k2, k3, k4, k5, k6, k7] n q := by
            rw [List.size_toArray, hys.len_eq, List.length_map]
            exact line_cnt hpp.1
          have hle : kept1 [k0, k1, k2, k3, k4, k5, k6, k7] n q ≤ 8 := by
            have h1 := hpp.2.1
            have h2 := hpp.2.2.1
            show (cntN q [k0, k1, k2, k3] - n) + (cntN q [k4, k5, k6, k7] - (n - cntN q [k0, k1, k2, k3])) ≤ 8
            omega
          generalize hkk : kept1 [k0, k1, k2, k3, k4, k5, k6, k7] n q = kk at hl hle
          k_steps
          exact .mk ⟨_, congrArg (fun z : Nat => Value.int z _) hkk.symm⟩
      · intro ys hys
        refine Classical.byContradiction fun hG9 => ?_
        obtain ⟨t1, t2, t3, rfl⟩ := all2_e3 (a := 114) (b := 103) (c := 98) hys
        refine hG9 ?_
        clear hG9
        clear hys
        generalize e1 : ((kept1 [k0, k1, k2, k3, k4, k5, k6, k7] n 114 : Nat) : Int) = v1
        generalize e2 : ((kept1 [k0, k1, k2, k3, k4, k5, k6, k7] n 103 : Nat) : Int) = v2
        generalize e3 : ((kept1 [k0, k1, k2, k3, k4, k5, k6, k7] n 98 : Nat) : Int) = v3
        k_steps
        refine .mk ⟨_, congrArg (fun z => Value.int z _) ?_⟩
        unfold keptN
        omega
    · intro ys hys
      unfold FinE
      intro D h tk F2 N2 oD
      k_steps
      exact hret _ _ _ _ ⟨D, ys, rfl, rfl, hys⟩ (by k_asm) (by (refine' cb_drop ?cbN ?cbS; (case cbN => assumption); (case cbS => kcj_all)))
end
section
open PySem PySem.W PySem.Calls PyProof.Rows PySem.Spec
set_option compiler.extract_closed false
variable {w : World} {mean : ExcName → Option Value} {mg mb : Str → Option Value}
open PyProof.Rows.LCg PyProof.Rows.LCt PySem.Flt
local macro_rules | `(tactic| walk_at "call builtin:max") => `(tactic| ((with_reducible show wpAny _ _ (call _ [Value.float (LF _) _, Value.float (LF _) _, Value.float (LF _) _]) _ _ _); k_dflt (refine max3_LF (by rfl) (by k_asm) (by k_asm) (by assumption) (by assumption) (by assumption) ?_); intro h9 tk9 z9 F9 N9))
local macro_rules | `(tactic| walk_at "call builtin:min") => `(tactic| ((with_reducible show wpAny _ _ (call _ [Value.float (LF _) _, Value.float (LF _) _, Value.float (LF _) _]) _ _ _); k_dflt (refine min3_LF (by rfl) (by k_asm) (by k_asm) (by assumption) (by assumption) (by assumption) ?_); intro h9 tk9 z9 F9 N9))
local macro_rules | `(tactic| walk_at "binaryOp Div float float") => `(tactic| ((with_reducible show wpAny _ _ (binaryOp Operator.Div (Value.float _ _) (Value.float _ _)) _ _ _); k_dflt (refine truediv_float_or rfl (fun hF => absurd (hF.symm.trans (by first | with_reducible assumption | decide +kernel)) (by decide)) (fun _ => ?_)); (try dsimp only)))
set_option maxHeartbeats 8000000 in
theorem c_hsv (i j k : Nat) (t1 t2 t3 : Tok) (news : List (Addr × Obj)) : ClaimR 1 w mean mg mb 28 news (i + j + k = 8) [.float (LF i) t1, .float (LF j) t2, .float (LF k) t3] (fun v led => ∃ T h s th ts tv, v = .ref T ∧ led = (T, kdv_tup [.float h th, .float s ts, .float (LF (max3 i j k)) tv]) :: news) := by
  intro dp un gd cn cs a ccd cl outer A₀ base h₀ L m s Q E B F X N T hk hpre hd hu hret
  have hi : i ≤ 8 := by omega
  have hj : j ≤ 8 := by omega
  have hk8 : k ≤ 8 := by omega
  have hm8 : min3 i j k ≤ 8 := by unfold min3; omega
  have hM8 : max3 i j k ≤ 8 := by unfold max3; omega
  have hM0 : Float64.isZero (LF (max3 i j k)) = false := by rw [lf_0 hM8]; simp; unfold max3; omega
  refine wpAny_call ?_
  k_dflt cell_enter
  by_cases hmM : min3 i j k = max3 i j k
  · have hc : (Float64.cmp (LF (min3 i j k)) (LF (max3 i j k)) == some .eq) = true := by rw [lf_eq hm8 hM8]; simp [hmM]
    k_steps
    all_goals exact hret _ _ _ _ ⟨_, _, _, _, _, _, rfl, rfl⟩ (by k_asm) (by k_asm)
  · have hc : (Float64.cmp (LF (min3 i j k)) (LF (max3 i j k)) == some .eq) = false := by rw [lf_eq hm8 hM8]; simp [hmM]
    have hz : Float64.isZero (Float64.sub (LF (max3 i j k)) (LF (min3 i j k))) = false := by rw [lf_sub0 hM8 hm8]; simp; omega
    k_steps
    all_goals exact hret _ _ _ _ ⟨_, _, _, _, _, _, rfl, rfl⟩ (by k_asm) (by k_asm)
noncomputable def lightF (M m : Nat) : UInt64 := Float64.div (Float64.add (LF M) (LF m)) 4611686018427387904
theorem light_all : ((List.range 9).all fun i => (List.range 9).all fun j => decide (8 < i + j) || ((Float64.cmp (Float64.div (Float64.add (LF i) (LF j)) 4611686018427387904) 4602678819172646912 == some .lt) || (Float64.cmp (Float64.div (Float64.add (LF i) (LF j)) 4611686018427387904) 4602678819172646912 == some .eq))) = true := by decide +kernel
theorem light_le {i j : Nat} (h : i + j ≤ 8) : ((Float64.cmp (Float64.div (Float64.add (LF i) (LF j)) 4611686018427387904) 4602678819172646912 == some .lt) || (Float64.cmp (Float64.div (Float64.add (LF i) (LF j)) 4611686018427387904) 4602678819172646912 == some .eq)) = true := by
  have a := light_all
  rw [List.all_eq_true] at a
  have b := a i (by rw [List.mem_range]; omega)
  rw [List.all_eq_true] at b
  have c := b j (by rw [List.mem_range]; omega)
  rw [Bool.or_eq_true] at c
  rcases c with c | c
  · exact absurd (of_decide_eq_true c) (by omega)
  · exact c
set_option maxHeartbeats 8000000 in
theorem c_hls (i j k : Nat) (t1 t2 t3 : Tok) (news : List (Addr × Obj)) : ClaimR 1 w mean mg mb 21 news (i + j + k = 8) [.float (LF i) t1, .float (LF j) t2, .float (LF k) t3] (fun v led => ∃ T h s th ts tv, v = .ref T ∧ led = (T, kdv_tup [.float h th, .float (lightF (max3 i j k) (min3 i j k)) tv, .float s ts]) :: news) := by
  intro dp un gd cn cs a ccd cl outer A₀ base h₀ L m s Q E B F X N T hk hpre hd hu hret
  have hi : i ≤ 8 := by omega
  have hj : j ≤ 8 := by omega
  have hk8 : k ≤ 8 := by omega
  have hm8 : min3 i j k ≤ 8 := by unfold min3; omega
  have hM8 : max3 i j k ≤ 8 := by unfold max3; omega
  have hM0 : Float64.isZero (Float64.add (LF (max3 i j k)) (LF (min3 i j k))) = false := by rw [lf_add0 hM8 hm8]; simp; unfold max3; omega
  refine wpAny_call ?_
  k_dflt cell_enter
  by_cases hmM : min3 i j k = max3 i j k
  · have hc : (Float64.cmp (LF (min3 i j k)) (LF (max3 i j k)) == some .eq) = true := by rw [lf_eq hm8 hM8]; simp [hmM]
    k_steps
    all_goals exact hret _ _ _ _ ⟨_, _, _, _, _, _, rfl, rfl⟩ (by k_asm) (by k_asm)
  · have hc : (Float64.cmp (LF (min3 i j k)) (LF (max3 i j k)) == some .eq) = false := by rw [lf_eq hm8 hM8]; simp [hmM]
    have hz : Float64.isZero (Float64.sub (LF (max3 i j k)) (LF (min3 i j k))) = false := by rw [lf_sub0 hM8 hm8]; simp; omega
    have hle := light_le (i := max3 i j k) (j := min3 i j k) (by unfold max3 min3; omega)
    k_steps
    all_goals exact hret _ _ _ _ ⟨_, _, _, _, _, _, rfl, rfl⟩ (by k_asm) (by k_asm)
end
section
open PySem PySem.W PySem.Calls PyProof.Rows PySem.Spec
set_option compiler.extract_closed false
variable {w : World} {mean : ExcName → Option Value} {mg mb : Str → Option Value}
open PyProof.Rows.LCg PyProof.Rows.LCt PySem.Flt
local macro_rules | `(tactic| walk_at "exec Assign cons ListComp") => `(tactic| ((with_reducible show wpAny _ _ (exec (PySem.Stmt.Assign [_] (PySem.Expr.ListComp _ [Comprehension.mk _ (PySem.Expr.Constant _ _ _) [] _] _ _) _) _) _ _ _); k_here; k_dflt (refine door_A (by k_asm) (by rfl) (by with_unfolding_all rfl) ⟨by with_unfolding_all rfl, by rfl, by decide⟩ (fun _ => by rfl) (by rfl) (by rfl) ?_)))
theorem count_ks (c : Nat) (ks : List Nat) : Txt.count ⟨⟨ks⟩⟩ ⟨#[c]⟩ = (cntN c ks : Nat) := by rw [count_cnt, cnt_N]
theorem lf_of (c : Nat) (ks : List Nat) : Float64.ofFrac (decide (Txt.count ⟨⟨ks⟩⟩ ⟨#[c]⟩ < 0) != decide ((8 : Int) < 0)) (Txt.count ⟨⟨ks⟩⟩ ⟨#[c]⟩).natAbs (Int.natAbs 8) = LF (cntN c ks) := by
  rw [count_ks]
  have h : decide (((cntN c ks : Nat) : Int) < 0) = false := decide_eq_false (by omega)
  rw [h]
  rfl
theorem cnt_sum : ∀ ks : List Nat, (∀ k ∈ ks, k ∈ letts) → cntN 114 ks + cntN 103 ks + cntN 98 ks = ks.length
  | [], _ => rfl
  | k :: r, h => by
    have ih := cnt_sum r fun x hx => h x (List.mem_cons_of_mem _ hx)
    have hk := h k List.mem_cons_self
    unfold cntN at ih ⊢
    simp only [List.countP_cons, List.length_cons]
    simp only [letts, List.mem_cons, List.not_mem_nil, or_false] at hk
    rcases hk with rfl | rfl | rfl <;> simp <;> omega
theorem lettN_in (n : Int) : lettN n ∈ letts := by
  unfold lettN
  split
  · exact List.mem_cons_self
  · split
    · exact List.mem_cons_of_mem _ List.mem_cons_self
    · exact List.mem_cons_of_mem _ (List.mem_cons_of_mem _ List.mem_cons_self)
local macro_rules | `(tactic| walk_at "call ref") => `(tactic| (k_dflt (first | refine' ClaimR.use (c_hsv _ _ _ _ _ _ _) ?k1 ?k2 ?k3 ?k4 ?k5 ?k6 ?k7 ?k8 ?k9 ?_ | refine' ClaimR.use (c_hls _ _ _ _ _ _ _) ?k1 ?k2 ?k3 ?k4 ?k5 ?k6 ?k7 ?k8 ?k9 ?_); (case k1 | k2 | k3 | k4 | k5 => k_asm); (case k6 => first | exact rfl | assumption); (case k7 => first | trivial | assumption); (case k8 => ktr_room); (case k9 => ktr_units); intro v9 led9 h9 tk9 hJ9 F9 N9; refine Classical.byContradiction fun hG9 => ?_; obtain ⟨T9, x9, y9, t9, t8, t7, q8, q9⟩ := hJ9; subst q8 q9; refine hG9 ?_; clear hG9; (try dsimp only); (try k_unmd); (try k_fold)))
theorem news15 {h₀ h : Heap} {L : Addr} {x a b c d e : Addr × Obj} {r : List (Addr × Obj)} (N : News h₀ L h (x :: a :: b :: c :: d :: e :: r)) : News h₀ L h (x :: r) := by
  intro p hp
  rcases List.mem_cons.mp hp with rfl | hp
  · exact N _ List.mem_cons_self
  · exact N _ (List.mem_cons_of_mem _ (List.mem_cons_of_mem _ (List.mem_cons_of_mem _ (List.mem_cons_of_mem _ (List.mem_cons_of_mem _ (List.mem_cons_of_mem _ hp))))))
theorem ints3 {a b c : Int} {vs : List Value} (h : IntsAre vs [a, b, c]) : ∃ t u v, vs = [.int a t, .int b u, .int c v] := by
  refine Classical.byContradiction fun hG => ?_
  obtain ⟨u0, z0, e0, k0⟩ := h.cons_inv
  obtain ⟨u1, z1, e1, k1⟩ := k0.cons_inv
  obtain ⟨u2, z2, e2, k2⟩ := k1.cons_inv
  exact hG ⟨u0, u1, u2, by rw [e0, e1, e2, k2.nil_inv]⟩
theorem cast_max (a b : Nat) : max (a : Int) b = ((max a b : Nat) : Int) := by omega
theorem cast_min (a b : Nat) : min (a : Int) b = ((min a b : Nat) : Int) := by omega
theorem mm_le (a b c : Nat) : max3 a b c + min3 a b c ≤ a + b + c := by
  unfold max3 min3
  have h1 : max a b + min a b = a + b := by omega
  have h2 : min (min a b) c ≤ min a b := Nat.min_le_left _ _
  have h3 : min (min a b) c ≤ c := Nat.min_le_right _ _
  generalize min (min a b) c = q at *
  generalize min a b = r at *
  generalize max a b = t at *
  omega
theorem cast_mid {a b c M m : Nat} (hs : a + b + c = 8) (h : M + m ≤ a + b + c) : (a : Int) + b + c - M - m = ((8 - M - m : Nat) : Int) := by omega
theorem sort3 {l : List Int} {a b c : Nat} (p : l.Perm [(a : Int), b, c]) (o : l.Pairwise (fun x y => y ≤ x)) (hs : a + b + c = 8) : l = [((max3 a b c : Nat) : Int), ((8 - max3 a b c - min3 a b c : Nat) : Int), ((min3 a b c : Nat) : Int)] := by
  rw [sorted_R p o]
  unfold sortR
  rw [cast_max, cast_max, cast_min, cast_min, ← cast_mid hs (mm_le a b c)]
  rfl
theorem kind_one (n : Int) : ((n % 3 == 0) = (lettN n == 114)) ∧ ((n % 3 == 1) = (lettN n == 103)) ∧ ((n % 3 == 2) = (lettN n == 98)) := by
  have h : n % 3 = 0 ∨ n % 3 = 1 ∨ n % 3 = 2 := by omega
  unfold lettN
  rcases h with h | h | h <;> simp [h]
theorem kinds0 {n0 n1 n2 n3 n4 n5 n6 n7 : Int} : List.count 0 [n0 % 3, n1 % 3, n2 % 3, n3 % 3, n4 % 3, n5 % 3, n6 % 3, n7 % 3] = cntN 114 [lettN n0, lettN n1, lettN n2, lettN n3, lettN n4, lettN n5, lettN n6, lettN n7] := by
  simp only [cntN, List.count, List.countP_cons, List.countP_nil, (kind_one _).1]
theorem kinds1 {n0 n1 n2 n3 n4 n5 n6 n7 : Int} : List.count 1 [n0 % 3, n1 % 3, n2 % 3, n3 % 3, n4 % 3, n5 % 3, n6 % 3, n7 % 3] = cntN 103 [lettN n0, lettN n1, lettN n2, lettN n3, lettN n4, lettN n5, lettN n6, lettN n7] := by
  simp only [cntN, List.count, List.countP_cons, List.countP_nil, (kind_one _).2.1]
theorem kinds2 {n0 n1 n2 n3 n4 n5 n6 n7 : Int} : List.count 2 [n0 % 3, n1 % 3, n2 % 3, n3 % 3, n4 % 3, n5 % 3, n6 % 3, n7 % 3] = cntN 98 [lettN n0, lettN n1, lettN n2, lettN n3, lettN n4, lettN n5, lettN n6, lettN n7] := by
  simp only [cntN, List.count, List.countP_cons, List.countP_nil, (kind_one _).2.2]
noncomputable def topF (M : Nat) : UInt64 := Float64.mul (Float64.ofInt 8) (LF M)
noncomputable def lowF (M m : Nat) : UInt64 := Float64.mul (Float64.ofInt 8) (Float64.sub (Float64.mul (Float64.ofInt 2) (lightF M m)) (LF M))
noncomputable def keptM (M m n : Nat) : Nat := (M - n) + (8 - M - m - n) + (m - n)
theorem keptM_all : ((List.range 9).all fun a => (List.range 9).all fun b => (List.range 9).all fun n => decide (a + b ≤ 8 → (a - n) + (b - n) + (8 - a - b - n) = keptM (max3 a b (8 - a - b)) (min3 a b (8 - a - b)) n)) = true := by decide +kernel
theorem keptM_of {a b c n : Nat} (hs : a + b + c = 8) : (a - n) + (b - n) + (c - n) = keptM (max3 a b c) (min3 a b c) n := by
  obtain rfl : c = 8 - a - b := by omega
  by_cases hn : n < 9
  · have h := keptM_all
    rw [List.all_eq_true] at h
    have h := h a (List.mem_range.mpr (by omega))
    rw [List.all_eq_true] at h
    have h := h b (List.mem_range.mpr (by omega))
    rw [List.all_eq_true] at h
    exact of_decide_eq_true (h n (List.mem_range.mpr hn)) (by omega)
  · have h1 : max3 a b (8 - a - b) ≤ n := Nat.max_le.mpr ⟨Nat.max_le.mpr ⟨by omega, by omega⟩, by omega⟩
    have h2 : min3 a b (8 - a - b) ≤ n := Nat.le_trans (Nat.min_le_right _ _) (by omega)
    unfold keptM
    generalize max3 a b (8 - a - b) = M at *
    generalize min3 a b (8 - a - b) = m at *
    rw [Nat.sub_eq_zero_of_le h1, Nat.sub_eq_zero_of_le h2, Nat.sub_eq_zero_of_le (show a ≤ n by omega), Nat.sub_eq_zero_of_le (show b ≤ n by omega), Nat.sub_eq_zero_of_le (show 8 - a - b ≤ n by omega), Nat.sub_eq_zero_of_le (show 8 - M - m ≤ n by omega)]
theorem ko (x y n : Nat) : (x - n) + (y - (n - x)) = x + y - n := by
  rcases Nat.le_total x n with h | h
  · obtain ⟨k, rfl⟩ := Nat.exists_eq_add_of_le h
    rw [Nat.sub_eq_zero_of_le h, Nat.add_sub_cancel_left, Nat.add_sub_add_left, Nat.zero_add]
  · obtain ⟨k, rfl⟩ := Nat.exists_eq_add_of_le h
    rw [Nat.sub_eq_zero_of_le h, Nat.add_sub_cancel_left, Nat.add_assoc, Nat.add_sub_cancel_left, Nat.sub_zero]
theorem kept_one {ks : List Nat} (n c : Nat) : kept1 ks n c = cntN c ks - n := by
  have h : cntN c ks = cntN c (ks.take 4) + cntN c (ks.drop 4) := by
    unfold cntN
    rw [← List.countP_append, List.take_append_drop]
  unfold kept1
  rw [h]
  exact ko _ _ _
theorem kept_M {ks : List Nat} {n : Nat} (hs : cntN 114 ks + cntN 103 ks + cntN 98 ks = 8) : keptN ks n = keptM (max3 (cntN 114 ks) (cntN 103 ks) (cntN 98 ks)) (min3 (cntN 114 ks) (cntN 103 ks) (cntN 98 ks)) n := by
  unfold keptN
  rw [kept_one, kept_one, kept_one]
  exact keptM_of hs
noncomputable def toldP (news : List (Addr × Obj)) (v : Value) (led : List (Addr × Obj)) : Prop := ∃ (M m : Nat) (T R K : Addr) (vs : List Value) (c : Nat) (r1 r2 r3 ta tb : Tok), M + 2 * m ≤ 8 ∧ 8 ≤ 2 * M + m ∧ v = .ref T ∧
  led = (T, kdv_tup [.ref R, .ref K, .float (topF M) ta, .float (lowF M m) tb]) :: (K, lst vs) :: (R, W.listOf #[.int (M : Nat) r1, .int (8 - M - m : Nat) r2, .int (m : Nat) r3] c) :: news ∧ All2 (fun n v => ∃ t, v = .int (keptM M m n : Nat) t) (List.range 9) vs
theorem all2_imp {α : Type} {V W : α → Value → Prop} (h : ∀ a v, V a v → W a v) : ∀ {xs : List α} {vs : List Value}, All2 V xs vs → All2 W xs vs
  | [], [], _ => trivial
  | _ :: _, _ :: _, k => ⟨h _ _ k.1, all2_imp h k.2⟩
  | [], _ :: _, k => k.elim
  | _ :: _, [], k => k.elim
set_option maxHeartbeats 8000000 in
theorem c_told (l : Addr) (n0 n1 n2 n3 n4 n5 n6 n7 : Int) (t0 t1 t2 t3 t4 t5 t6 t7 : Tok) (news : List (Addr × Obj)) : ClaimR 6 w mean mg mb 138 ((l, LCg.lst [.int n0 t0, .int n1 t1, .int n2 t2, .int n3 t3, .int n4 t4, .int n5 t5, .int n6 t6, .int n7 t7]) :: news) ((0 ≤ n0 ∧ n0 < 18) ∧ (0 ≤ n1 ∧ n1 < 18) ∧ (0 ≤ n2 ∧ n2 < 18) ∧ (0 ≤ n3 ∧ n3 < 18) ∧ (0 ≤ n4 ∧ n4 < 18) ∧ (0 ≤ n5 ∧ n5 < 18) ∧ (0 ≤ n6 ∧ n6 < 18) ∧ (0 ≤ n7 ∧ n7 < 18)) [.ref l]
    (toldP news) := by
  intro dp un gd cn cs a ccd cl outer A₀ base h₀ L m s Q E B F X N T hk hpre hd hu hret
  refine wpAny_call ?_
  k_dflt (walk_at "enter cells")
  intro g1 L1 hp1 tk1 cells1 FG1 F1 N1 Y1 B1 X1 T1 l1
  have c1 : ∀ p ∈ news, p.1 ≠ L1 + 1 := fun p hp => Nat.ne_of_lt (Nat.lt_succ_of_lt (l1 p (List.mem_cons_of_mem _ hp)))
  have c2 : ∀ p ∈ news, p.1 ≠ L1 + 1 + 1 := fun p hp => Nat.ne_of_lt (Nat.lt_succ_of_lt (Nat.lt_succ_of_lt (l1 p (List.mem_cons_of_mem _ hp))))
  have c3 : l ≠ L1 + 1 := Nat.ne_of_lt (Nat.lt_succ_of_lt (l1 (l, _) List.mem_cons_self))
  have c4 : l ≠ L1 + 1 + 1 := Nat.ne_of_lt (Nat.lt_succ_of_lt (Nat.lt_succ_of_lt (l1 (l, _) List.mem_cons_self)))
  k_cells Y1
  rename_i oA oB dA dB
  try simp only [List.cons_append, List.nil_append] at N1
  dsimp only
  k_unmd
  k_fold
  k_steps
  rename News g1 L1 _ _ => N2
  refine' ClaimR.use (c_word l n0 n1 n2 n3 n4 n5 n6 n7 t0 t1 t2 t3 t4 t5 t6 t7 ((L1 + 1 + 1, oA) :: (L1 + 1, oB) :: news)) ?k1 ?k2 ?k3 ?k4 ?k5 ?k6 ?k7 ?k8 ?k9 ?_
  case k1 => k_asm
  case k2 => k_asm
  case k3 => k_asm
  case k4 => exact fun p hp => N2 p (by simp only [List.mem_cons] at hp ⊢; rcases hp with h | h | h | h <;> simp [h])
  case k5 => k_asm
  case k6 => rfl
  case k7 => exact hpre
  case k8 => ktr_room
  case k9 => ktr_units
  intro v led h9 tk9 hJ0 F9 N9
  refine Classical.byContradiction fun hG9 => ?_
  obtain ⟨t9, rfl, rfl⟩ := hJ0
  refine hG9 ?_
  clear hG9
  clear N2
  dsimp only
  k_unmd
  try k_fold
  walk_at "to ready"
  refine Ready.text (by rfl) (by k_asm) (by k_asm) (by rw [PySem.sizeLine_eq]; decide) (by decide) (by rfl) (by rfl) ?_
  intro g2
  refine rest_G (Str.ofString "rgb").cps.toList (by rfl) (fun c v => ∃ t, v = .str ⟨#[c]⟩ t) (fun c v => ∃ t, v = .float (LF (cntN c [lettN n0, lettN n1, lettN n2, lettN n3, lettN n4, lettN n5, lettN n6, lettN n7])) t) hP_text trivial ?_ ?_
  · intro c hc v I oI C oC D m₂ ys h tk E' hV hC hx F2 N2 off ne
    obtain ⟨t, rfl⟩ := hV
    have e1 := count_ks c [lettN n0, lettN n1, lettN n2, lettN n3, lettN n4, lettN n5, lettN n6, lettN n7]
    have b1 : cntN c [lettN n0, lettN n1, lettN n2, lettN n3, lettN n4, lettN n5, lettN n6, lettN n7] ≤ 8 := cntN_le _ _
    have b2 : 0 ≤ Txt.count ⟨⟨[lettN n0, lettN n1, lettN n2, lettN n3, lettN n4, lettN n5, lettN n6, lettN n7]⟩⟩ ⟨#[c]⟩ := by rw [e1]; omega
    have b3 : Txt.count ⟨⟨[lettN n0, lettN n1, lettN n2, lettN n3, lettN n4, lettN n5, lettN n6, lettN n7]⟩⟩ ⟨#[c]⟩ ≤ 8 := by rw [e1]; omega
    have b4 := lf_of c [lettN n0, lettN n1, lettN n2, lettN n3, lettN n4, lettN n5, lettN n6, lettN n7]
    clear e1 b1
    k_steps
    rw [b4]; exact .mk ⟨_, rfl⟩
  · intro ys hys
    refine Classical.byContradiction fun hG9 => ?_
    obtain ⟨t1, t2, t3, rfl⟩ := all2_e3 (a := 114) (b := 103) (c := 98) hys
    refine hG9 ?_
    clear hG9
    clear hys
    obtain ⟨ks, hks⟩ : ∃ ks, ks = [lettN n0, lettN n1, lettN n2, lettN n3, lettN n4, lettN n5, lettN n6, lettN n7] := ⟨_, rfl⟩
    have hsum : cntN 114 ks + cntN 103 ks + cntN 98 ks = 8 := by rw [hks]; exact cnt_sum _ (by simp [lettN_in])
    rw [← hks]
    walk_at "to src"
    rename News g1 L1 _ _ => N2
    have N3 := fun p hp => N2 p (List.mem_cons_of_mem _ (List.mem_cons_of_mem _ (List.mem_cons_of_mem _ hp)))
    change News g1 L1 _ _ at N3
    clear N2
    k_dflt (refine LCg.CompSrc.ledger (by rfl) (by k_asm) N3 (by k_mem) (by first | size_fits | exact Nat.le_of_ble_eq_true rfl) ?_)
    intro g4
    refine rest_G [n0, n1, n2, n3, n4, n5, n6, n7] (by rfl) (fun n v => ∃ t, v = .int n t) (fun n v => ∃ t, v = .int (n % 3) t) (hP_list ⟨⟨_, rfl⟩, ⟨_, rfl⟩, ⟨_, rfl⟩, ⟨_, rfl⟩, ⟨_, rfl⟩, ⟨_, rfl⟩, ⟨_, rfl⟩, ⟨_, rfl⟩, trivial⟩) (by lcg_src) ?_ ?_
    · intro k hk v I oI C oC D m₂ ys h tk E' hV hC hx F2 N2 off ne
      obtain ⟨t9, rfl⟩ := hV
      k_steps
      exact .mk ⟨_, congrArg (fun z => Value.int z _) (Int.fmod_eq_emod_of_nonneg k (by decide))⟩
    · intro ys hys
      refine Classical.byContradiction fun hG9 => ?_
      obtain ⟨s0, s1, s2, s3, s4, s5, s6, s7, rfl⟩ := all2_e8 hys
      refine hG9 ?_
      clear hG9
      clear hys
      walk_at "to src"
      k_dflt (refine LCg.CompSrc.range (by rfl) (by k_asm) (by k_asm) (by assumption) (by first | decide | rfl) (by first | rfl | decide) (by first | size_fits | exact Nat.le_of_ble_eq_true rfl) ?_)
      intro g5
      refine rest_G (List.range 3) (by rfl) (fun i v => ∃ t, v = .int (0 + (i : Int)) t) (fun i v => ∃ t, v = .int (List.count (i : Int) [n0 % 3, n1 % 3, n2 % 3, n3 % 3, n4 % 3, n5 % 3, n6 % 3, n7 % 3] : Nat) t) hP_range trivial ?_ ?_
      · intro k hk v I oI C oC D m₂ ys h tk E' hV hC hx F2 N2 off ne
        obtain ⟨t9, rfl⟩ := hV
        rw [Int.zero_add] at hx
        k_steps
        exact .mk ⟨_, rfl⟩
      · intro ys hys
        refine Classical.byContradiction fun hG9 => ?_
        obtain ⟨t1, t2, t3, rfl⟩ := all2_e3 (a := 0) (b := 1) (c := 2) hys
        refine hG9 ?_
        clear hG9
        clear hys
        k_steps
        rename News g1 L1 _ _ => N4
        rename IntsAre _ _ => iA
        rename List.Perm _ _ => pP
        rename List.Pairwise _ _ => oP
        have hn := sort3 pP oP (by rw [show ((0 : Nat) : Int) = 0 from rfl, show ((1 : Nat) : Int) = 1 from rfl, show ((2 : Nat) : Int) = 2 from rfl, kinds0, kinds1, kinds2, ← hks]; exact hsum)
        rw [show ((0 : Nat) : Int) = 0 from rfl, show ((1 : Nat) : Int) = 1 from rfl, show ((2 : Nat) : Int) = 2 from rfl, kinds0, kinds1, kinds2, ← hks] at hn
        subst hn
        refine Classical.byContradiction fun hG9 => ?_
        obtain ⟨r1, r2, r3, rfl⟩ := ints3 iA
        refine hG9 ?_
        clear hG9
        have N5 := news15 N4
        clear N4
        refine' ClaimR.use (c_kept (lettN n0) (lettN n1) (lettN n2) (lettN n3) (lettN n4) (lettN n5) (lettN n6) (lettN n7) t9 _) ?k1 ?k2 ?k3 ?k4 ?k5 ?k6 ?k7 ?k8 ?k9 ?_
        case k1 => k_asm
        case k2 => k_asm
        case k3 => k_asm
        case k4 => exact N5
        case k5 => k_asm
        case k6 => rfl
        case k7 => trivial
        case k8 => ktr_room
        case k9 => ktr_units
        intro v led h8 tk8 hJ0 F8 N8
        refine Classical.byContradiction fun hG9 => ?_
        obtain ⟨K, vs, rfl, rfl, hvs⟩ := hJ0
        refine hG9 ?_
        clear hG9
        rw [← hks] at hvs
        have hvs' : All2 (fun n v => ∃ t, v = .int (keptM (max3 (cntN 114 ks) (cntN 103 ks) (cntN 98 ks)) (min3 (cntN 114 ks) (cntN 103 ks) (cntN 98 ks)) n : Nat) t) (List.range 9) vs := all2_imp (fun n v => by rintro ⟨t, e⟩; rw [kept_M hsum] at e; exact ⟨t, e⟩) hvs
        dsimp only
        k_unmd
        try k_fold
        k_steps
        exact hret _ _ _ _ ⟨max3 (cntN 114 ks) (cntN 103 ks) (cntN 98 ks), min3 (cntN 114 ks) (cntN 103 ks) (cntN 98 ks), _, _, K, vs, _, r1, r2, r3, _, _, by unfold max3 min3; omega, by unfold max3 min3; omega, rfl, rfl, hvs'⟩ (by k_asm) (by k_asm)
end
local macro_rules | `(tactic| walk_at "exec For Tuple Tuple cons nil") => `(tactic| (k_here; k_dflt (refine' door_F ?k0 ?k1 ?k2; (case k0 => k_asm); (case k2 => exact fun _ => rfl); k_whole)))
local macro_rules | `(tactic| walk_at "to readyF") => `(tactic| repeat' ((fail_if_success (with_reducible show ReadyF ..)); walk_at "one"))
section
open PySem PySem.W PySem.Calls PyProof.Rows PySem.Spec
set_option compiler.extract_closed false
variable {w : World} {mean : ExcName → Option Value} {mg mb : Str → Option Value}
open PyProof.Rows.LCg PyProof.Rows.LCt PySem.Flt
local macro_rules | `(tactic| walk_at "sub tail") => `(tactic| (intro p9 hp9; repeat (first | exact hp9 | refine List.mem_cons_of_mem _ ?_)))
theorem pow_all : ((List.range 5).all fun x => (List.range 9).all fun a => decide (1 ≤ (((x + 1 : Nat) : Int)) ^ a ∧ (((x + 1 : Nat) : Int)) ^ a ≤ 390625)) = true := by decide +kernel
theorem pow_b {x : Int} {a : Nat} (h1 : 1 ≤ x) (h5 : x ≤ 5) (ha : a ≤ 8) : 1 ≤ x ^ a ∧ x ^ a ≤ 390625 := by
  have h := pow_all
  rw [List.all_eq_true] at h
  have h := h (x - 1).toNat (by rw [List.mem_range]; omega)
  rw [List.all_eq_true] at h
  have h := of_decide_eq_true (h a (by rw [List.mem_range]; omega))
  rw [show (((x - 1).toNat + 1 : Nat) : Int) = x by omega] at h
  exact h
theorem pow_bits {x : Int} {a : Nat} (h1 : 1 ≤ x) (h5 : x ≤ 5) (ha : a ≤ 8) : Builtin.Int.intBits (x ^ a) ≤ 64 := by
  have p := pow_b h1 h5 ha
  generalize x ^ a = X at p ⊢
  exact intBits_le_64 (by omega) (by omega)
section
variable {prog : Program} {A : Around} {E : Value → Shared → Prop} {s : Shared} {Q : Value → Shared → Prop}
theorem pow_nat {x n : Int} {a : Nat} {t u : Tok} (e : n = (a : Nat)) (h1 : 1 ≤ x) (h5 : x ≤ 5) (ha : a ≤ 8) (h : Q (.int (x ^ a) s.toks) { s with toks := s.toks + 1 }) : wpAny (model prog w) A (binaryOp .Pow (.int x t) (.int n u)) Q E s := by
  subst e
  exact pow_int_small (by omega) (by omega) (by omega) (by rw [Int.toNat_natCast]; exact h)
theorem mul_pp {x y : Int} {a b : Nat} {t u : Tok} (k1 : 1 ≤ y) (k5 : y ≤ 5) (hb : b ≤ 8) (h : Q (.int (x ^ a * y ^ b) s.toks) { s with toks := s.toks + 1 }) : wpAny (model prog w) A (binaryOp .Mult (.int (x ^ a) t) (.int (y ^ b) u)) Q E s := by
  exact mul_int h (IntMulOk.of_right (pow_bits k1 k5 hb))
theorem mul_ppp {x y z : Int} {a b c : Nat} {t u : Tok} (l1 : 1 ≤ z) (l5 : z ≤ 5) (hc : c ≤ 8) (h : Q (.int (x ^ a * y ^ b * z ^ c) s.toks) { s with toks := s.toks + 1 }) : wpAny (model prog w) A (binaryOp .Mult (.int (x ^ a * y ^ b) t) (.int (z ^ c) u)) Q E s := by
  exact mul_int h (IntMulOk.of_right (pow_bits l1 l5 hc))
end
local macro_rules | `(tactic| walk_at "binaryOp Pow int int") => `(tactic| (with_reducible (refine pow_nat (by with_unfolding_all rfl) (by assumption) (by assumption) (by assumption) ?_); (try dsimp only)))
local macro_rules | `(tactic| walk_at "binaryOp Mult int int") => `(tactic| (with_reducible (first | refine mul_pp (by assumption) (by assumption) (by assumption) ?_ | refine mul_ppp (by assumption) (by assumption) (by assumption) ?_); (try dsimp only)))
noncomputable def sumI (a b c : Nat) (x y z : Int) : Int := x ^ a * y ^ b * z ^ c + x ^ a * z ^ b * y ^ c + y ^ a * x ^ b * z ^ c + y ^ a * z ^ b * x ^ c + z ^ a * x ^ b * y ^ c + z ^ a * y ^ b * x ^ c
noncomputable def prmT (a b c : Nat) (x y z : Int) : Nat → Int
  | 0 => x ^ a * y ^ b * z ^ c
  | 1 => x ^ a * z ^ b * y ^ c
  | 2 => y ^ a * x ^ b * z ^ c
  | 3 => y ^ a * z ^ b * x ^ c
  | 4 => z ^ a * x ^ b * y ^ c
  | _ => z ^ a * y ^ b * x ^ c
noncomputable def psum (f : Nat → Int) : Nat → Int
  | 0 => 0
  | n + 1 => psum f n + f n
theorem psum6 (a b c : Nat) (x y z : Int) : psum (prmT a b c x y z) 6 = sumI a b c x y z := by
  show 0 + _ + _ + _ + _ + _ + _ = _
  rw [Int.zero_add]
  rfl
theorem selb {x y z i : Int} (hx : 1 ≤ x ∧ x ≤ 5) (hy : 1 ≤ y ∧ y ≤ 5) (hz : 1 ≤ z ∧ z ≤ 5) (hi : Is3 i) : 1 ≤ selI x y z i ∧ selI x y z i ≤ 5 := by
  rcases hi with rfl | rfl | rfl
  · exact hx
  · exact hy
  · exact hz
theorem sumSix (a b c : Nat) (x y z : Int) {T0 T1 T2 T3 T4 T5 : Addr} {base : List (Addr × Obj)} {a0 a1 a2 b0 b1 b2 c0 c1 c2 d0 d1 d2 e0 e1 e2 f0 f1 f2 : Tok}
    (h0 : (T0, kdv_tup [.int 0 a0, .int 1 a1, .int 2 a2]) ∈ base) (h1 : (T1, kdv_tup [.int 0 b0, .int 2 b1, .int 1 b2]) ∈ base) (h2 : (T2, kdv_tup [.int 1 c0, .int 0 c1, .int 2 c2]) ∈ base)
    (h3 : (T3, kdv_tup [.int 1 d0, .int 2 d1, .int 0 d2]) ∈ base) (h4 : (T4, kdv_tup [.int 2 e0, .int 0 e1, .int 1 e2]) ∈ base) (h5 : (T5, kdv_tup [.int 2 f0, .int 1 f1, .int 0 f2]) ∈ base) :
    ∀ (j : Nat) (v : Value), [Value.ref T0, .ref T1, .ref T2, .ref T3, .ref T4, .ref T5].toArray[j]? = some v → ∃ (T : Addr) (i1 i2 i3 : Int) (u1 u2 u3 : Tok), v = .ref T ∧ (T, kdv_tup [.int i1 u1, .int i2 u2, .int i3 u3]) ∈ base ∧ Is3 i1 ∧ Is3 i2 ∧ Is3 i3 ∧
      psum (prmT a b c x y z) j + selI x y z i1 ^ a * selI x y z i2 ^ b * selI x y z i3 ^ c = psum (prmT a b c x y z) (j + 1)
  | 0, _, e => ⟨T0, _, _, _, _, _, _, (Option.some.inj e).symm, h0, .inl rfl, .inr (.inl rfl), .inr (.inr rfl), rfl⟩
  | 1, _, e => ⟨T1, _, _, _, _, _, _, (Option.some.inj e).symm, h1, .inl rfl, .inr (.inr rfl), .inr (.inl rfl), rfl⟩
  | 2, _, e => ⟨T2, _, _, _, _, _, _, (Option.some.inj e).symm, h2, .inr (.inl rfl), .inl rfl, .inr (.inr rfl), rfl⟩
  | 3, _, e => ⟨T3, _, _, _, _, _, _, (Option.some.inj e).symm, h3, .inr (.inl rfl), .inr (.inr rfl), .inl rfl, rfl⟩
  | 4, _, e => ⟨T4, _, _, _, _, _, _, (Option.some.inj e).symm, h4, .inr (.inr rfl), .inl rfl, .inr (.inl rfl), rfl⟩
  | 5, _, e => ⟨T5, _, _, _, _, _, _, (Option.some.inj e).symm, h5, .inr (.inr rfl), .inr (.inl rfl), .inl rfl, rfl⟩
  | j + 6, _, e => by simp at e
section
variable {prog : Program} {A : Around} {E : Value → Shared → Prop} {s : Shared} {Q : Value → Shared → Prop}
theorem item_sel {value slice : PySem.Expr} {t : Addr} {x y z i : Int} {t4 t5 t6 u : Tok} (ht : s.heap.IsTuple t [Value.int x t4, Value.int y t5, Value.int z t6].toArray) (hi : Is3 i) (h : Q (.int (selI x y z i) (selI t4 t5 t6 i)) s)
    (hs : subscripted slice false (.ref t) (.int i u) = operate [.ref t, .int i u] (getItem (.ref t) (.int i u)) := by with_unfolding_all rfl) : wpAny (model prog w) A (subscriptTail value slice (.ref t) (.int i u)) Q E s := by
  rcases hi with rfl | rfl | rfl
  · exact item_tupleT ht (by decide) (by decide) (by rfl) (by rfl) h hs
  · exact item_tupleT ht (by decide) (by decide) (by rfl) (by rfl) h hs
  · exact item_tupleT ht (by decide) (by decide) (by rfl) (by rfl) h hs
end
local macro_rules | `(tactic| walk_at "subscriptTail") => `(tactic| ((with_reducible show wpAny _ _ (subscriptTail _ _ (Value.ref _) (Value.int _ _)) _ _ _); k_dflt (refine item_sel (by exact News.isTup (by k_asm) (by k_mem)) (by assumption) ?_)))
local macro_rules | `(tactic| walk_at "eval Name") => `(tactic| ((with_reducible show wpAny _ _ (eval (PySem.Expr.Name _ _) (envOf _ _ _ _ _)) _ _ _); with_unfolding_all refine ld (by assumption) (by assumption) ?_))
local macro_rules | `(tactic| walk_at "loadName") => `(tactic| ((with_reducible show wpAny _ _ (loadName (envOf _ _ _ _ _) _) _ _ _); with_unfolding_all refine ldn (by assumption) (by assumption) ?_))
theorem news_put {h₀ h : Heap} {L : Addr} {i : Addr × Obj} {base : List (Addr × Obj)} {p q r : Addr × Obj} (N : News h₀ L h (i :: base)) (hp : p ∈ base) (hq : q ∈ base) (hr : r ∈ base) : News h₀ L h (i :: p :: q :: r :: base) := fun x hx => N x (by
  simp only [List.mem_cons] at hx ⊢
  rcases hx with h | h | h | h | h
  · exact .inl h
  · exact .inr (h ▸ hp)
  · exact .inr (h ▸ hq)
  · exact .inr (h ▸ hr)
  · exact .inr h)
theorem sub_put {i p q r : Addr × Obj} {base : List (Addr × Obj)} : ∀ x ∈ i :: base, x ∈ i :: p :: q :: r :: base := fun x hx => by
  simp only [List.mem_cons] at hx ⊢
  rcases hx with h | h
  · exact .inl h
  · exact .inr (.inr (.inr (.inr h)))
set_option maxHeartbeats 8000000 in
theorem c_sum (R S : Addr) (cc : Nat) (a b c : Nat) (x y z : Int) (t1 t2 t3 t4 t5 t6 : Tok) (news : List (Addr × Obj)) : ClaimR 1 w mean mg mb 145 ((R, W.listOf #[.int (a : Nat) t1, .int (b : Nat) t2, .int (c : Nat) t3] cc) :: (S, kdv_tup [.int x t4, .int y t5, .int z t6]) :: news)
    (a ≤ 8 ∧ b ≤ 8 ∧ c ≤ 8 ∧ (1 ≤ x ∧ x ≤ 5) ∧ (1 ≤ y ∧ y ≤ 5) ∧ (1 ≤ z ∧ z ≤ 5)) [.ref R, .ref S] (One ((R, W.listOf #[.int (a : Nat) t1, .int (b : Nat) t2, .int (c : Nat) t3] cc) :: (S, kdv_tup [.int x t4, .int y t5, .int z t6]) :: news) fun u => .int (sumI a b c x y z) u) := by
  intro dp un gd cn cs ad ccd cl outer A₀ base h₀ L m s Q E B F X N T hk hpre hd hu hret
  refine Classical.byContradiction fun hG9 => ?_
  obtain ⟨ha, hb, hc, ⟨hx1, hx5⟩, ⟨hy1, hy5⟩, ⟨hz1, hz5⟩⟩ := hpre
  refine hG9 ?_
  clear hG9
  refine wpAny_call ?_
  k_dflt cell_enter
  walk_at "to readyF"
  rename_i g1 L1 hA FG1 B1 X1 T1 hB Ta hC la Tb hD lb Tc hE lc Td hF ld Te hG le Tf hH lf Tg hI F9 N9 lg
  clear la lb lc ld le lf lg
  refine Classical.byContradiction fun hG9 => ?_
  obtain ⟨base9, N9, hR9, hS9, hT9, hsix, hsub⟩ : ∃ b9 : List (Addr × Obj), News g1 L1 hI b9 ∧ (R, W.listOf #[.int (a : Nat) t1, .int (b : Nat) t2, .int (c : Nat) t3] cc) ∈ b9 ∧ (S, kdv_tup [.int x t4, .int y t5, .int z t6]) ∈ b9 ∧ (Tg, kdv_tup [Value.ref Ta, .ref Tb, .ref Tc, .ref Td, .ref Te, .ref Tf]) ∈ b9 ∧
      (∀ (j : Nat) (v : Value), [Value.ref Ta, .ref Tb, .ref Tc, .ref Td, .ref Te, .ref Tf].toArray[j]? = some v → ∃ (T : Addr) (i1 i2 i3 : Int) (u1 u2 u3 : Tok), v = .ref T ∧ (T, kdv_tup [.int i1 u1, .int i2 u2, .int i3 u3]) ∈ b9 ∧ Is3 i1 ∧ Is3 i2 ∧ Is3 i3 ∧
      psum (prmT a b c x y z) j + selI x y z i1 ^ a * selI x y z i2 ^ b * selI x y z i3 ^ c = psum (prmT a b c x y z) (j + 1)) ∧ (∀ p ∈ ((R, W.listOf #[.int (a : Nat) t1, .int (b : Nat) t2, .int (c : Nat) t3] cc) :: (S, kdv_tup [.int x t4, .int y t5, .int z t6]) :: news), p ∈ b9) :=
    ⟨_, N9, by k_mem, by k_mem, by k_mem, sumSix a b c x y z (by k_mem) (by k_mem) (by k_mem) (by k_mem) (by k_mem) (by k_mem), by walk_at "sub tail"⟩
  refine hG9 ?_
  clear hG9
  refine ReadyF.tup (by rfl) (by k_asm) N9 ⟨_, hT9, rfl, _, rfl⟩ (by passes_own) ?_
  intro g5
  refine ForRest.inv (fun j m led => ∃ tt, m (Str.ofString "total") = some (.int (psum (prmT a b c x y z) j) tt) ∧ m (Str.ofString "row") = some (.ref R) ∧ m (Str.ofString "spot") = some (.ref S) ∧ base9 = led) ?_ ?_ ?_
  · exact ⟨_, rfl, by with_unfolding_all rfl, by with_unfolding_all rfl, rfl⟩
  · intro j m₂ led₂ v I oI h₂ tk₂ hj hJ0 hv F6 N6 off6
    refine Classical.byContradiction fun hG9 => ?_
    obtain ⟨tt, q1, q2, q3, rfl⟩ := hJ0
    obtain ⟨T9, i1, i2, i3, u1, u2, u3, rfl, hm9, hi1, hi2, hi3, hps⟩ := hsix j v hv
    obtain ⟨p1, p2⟩ := selb ⟨hx1, hx5⟩ ⟨hy1, hy5⟩ ⟨hz1, hz5⟩ hi1
    obtain ⟨p3, p4⟩ := selb ⟨hx1, hx5⟩ ⟨hy1, hy5⟩ ⟨hz1, hz5⟩ hi2
    obtain ⟨p5, p6⟩ := selb ⟨hx1, hx5⟩ ⟨hy1, hy5⟩ ⟨hz1, hz5⟩ hi3
    refine hG9 ?_
    clear hG9
    have N7 := news_put N6 hm9 hR9 hS9
    clear N6 N9
    dsimp only
    k_steps
    refine ForEnd.intro (by k_asm) (by k_asm) sub_put off6 ⟨_, hT9, rfl, _, rfl⟩ ⟨_, (by with_unfolding_all exact congrArg (fun q => some (Value.int q _)) hps), by with_unfolding_all exact q2, by with_unfolding_all exact q3, rfl⟩
  · rintro m₂ led₂ ⟨tt, q1, q2, q3, rfl⟩ h₂ tk₂ F6 N6
    dsimp only
    k_steps
    exact cb_retI (Q := Q) (fun t h' tk' F N => hret _ _ h' tk' ⟨t, rfl, rfl⟩ F N) (psum6 a b c x y z) (by k_asm) (by (refine' cb_drop ?cbN ?cbS; (case cbN => assumption); (case cbS => exact hsub)))
end
local macro_rules | `(tactic| walk_at "memt") => `(tactic| repeat (first | exact List.mem_cons_self | exact List.mem_append_right _ List.mem_cons_self | exact List.mem_append_left _ (by assumption) | refine List.mem_cons_of_mem _ ?_))
section
open PySem PySem.W PySem.Calls PyProof.Rows PySem.Spec
set_option compiler.extract_closed false
variable {w : World} {mean : ExcName → Option Value} {mg mb : Str → Option Value}
open PyProof.Rows.LCg PyProof.Rows.LCt PySem.Flt
local macro_rules | `(tactic| walk_at "exec For Name Name cons nil") => `(tactic| (k_here; k_dflt (refine' door_F ?k0 ?k1 ?k2; (case k0 => k_asm); (case k2 => exact fun _ => rfl); k_whole)))
local macro_rules | `(tactic| walk_at "eval Name") => `(tactic| ((with_reducible show wpAny _ _ (eval (PySem.Expr.Name _ _) (envOf _ _ _ _ _)) _ _ _); with_unfolding_all refine ld (by assumption) (by assumption) ?_))
local macro_rules | `(tactic| walk_at "loadName") => `(tactic| ((with_reducible show wpAny _ _ (loadName (envOf _ _ _ _ _) _) _ _ _); with_unfolding_all refine ldn (by assumption) (by assumption) ?_))
local macro_rules | `(tactic| walk_at "subt") => `(tactic| (intro p9 hp9; repeat (first | exact List.mem_append_left _ hp9 | refine List.mem_cons_of_mem _ ?_)))
local macro_rules | `(tactic| walk_at "compareOp NotEq ref ref") => `(tactic| (k_here; k_dflt (refine ne_rows (by k_asm) (by k_mem) (by walk_at "memt") (by assumption) (by walk_at "subt") (by ktr_units) ?_)))
local macro_rules | `(tactic| walk_at "compareOp In ref ref") => `(tactic| (k_here; k_dflt (refine in_rows (by k_asm) (by walk_at "memt") (by assumption) (by walk_at "memt") (by assumption) (by walk_at "subt") (by ktr_units) ?_)))
noncomputable def MInv (g : Rw) (ans : Int) (Ga : Addr) (go : Obj) (tail : List (Addr × Obj)) (k : Nat) (m : Str → Option Value) (led : List (Addr × Obj)) : Prop :=
  ∃ (Ly : Addr) (c : Nat) (RL : List (Addr × Obj)) (rows : List Rw) (mv : Int) (tm : Tok), m (Str.ofString "layer") = some (.ref Ly) ∧ m (Str.ofString "moves") = some (.int mv tm) ∧ m (Str.ofString "goal") = some (.ref Ga) ∧
    led = (Ly, W.listOf (refs RL).toArray c) :: (RL ++ (Ga, go) :: tail) ∧ RowsAt rows RL ∧ ansM k rows g mv = ans ∧ iterM k rows = [] ∧ ∀ j, j ≤ k → (iterM j rows).length ≤ 100
theorem moves_led0 {h₀ h : Heap} {L D : Addr} {o : Obj} {a b : Addr × Obj} {r : List (Addr × Obj)} (N : News h₀ L h ((D, o) :: a :: b :: r)) : News h₀ L h ((D, o) :: ([a] ++ b :: a :: r)) := by
  intro p hp
  refine N p ?_
  simp only [List.mem_cons, List.mem_append, List.not_mem_nil, or_false] at hp ⊢
  rcases hp with h | h | h | h | h <;> simp [h]
theorem moves_own {h₀ h : Heap} {L : Addr} {a b : Addr × Obj} {RL r : List (Addr × Obj)} (N : News h₀ L h (RL ++ b :: a :: r)) : News h₀ L h (a :: b :: r) := by
  intro p hp
  refine N p (List.mem_append_right _ ?_)
  simp only [List.mem_cons] at hp ⊢
  rcases hp with h | h | h <;> simp [h]
theorem moves_drop2 {h₀ h : Heap} {L : Addr} {a b : Addr × Obj} {r : List (Addr × Obj)} (N : News h₀ L h (a :: b :: r)) : News h₀ L h (a :: r) := fun p hp => N p (by
  rcases List.mem_cons.mp hp with rfl | hp
  · exact List.mem_cons_self
  · exact List.mem_cons_of_mem _ (List.mem_cons_of_mem _ hp))
theorem moves_cut {h₀ h : Heap} {L : Addr} {f a : Addr × Obj} {RF RL r : List (Addr × Obj)} (N : News h₀ L h (f :: (RF ++ a :: (RL ++ r)))) : News h₀ L h (f :: (RF ++ r)) := fun p hp => N p (by
  rcases List.mem_cons.mp hp with rfl | hp
  · exact List.mem_cons_self
  · refine List.mem_cons_of_mem _ ?_
    rcases List.mem_append.mp hp with hp | hp
    · exact List.mem_append_left _ hp
    · exact List.mem_append_right _ (List.mem_cons_of_mem _ (List.mem_append_right _ hp)))
theorem refs_at {RL : List (Addr × Obj)} {i : Nat} {v : Value} (h : (refs RL).toArray[i]? = some v) : ∃ p, RL[i]? = some p ∧ Value.ref p.1 = v := by
  have h' : (refs RL)[i]? = some v := by simpa using h
  rw [List.getElem?_map] at h'
  cases e : RL[i]? with
  | none => rw [e] at h'; cases h'
  | some p => rw [e] at h'; exact ⟨p, rfl, Option.some.inj h'⟩
theorem moves_ins {h₀ h : Heap} {L : Addr} {a b c d e f q : Addr × Obj} {r : List (Addr × Obj)} (hq : q ∈ r) (N : News h₀ L h (a :: b :: c :: d :: e :: f :: r)) : News h₀ L h (a :: b :: c :: d :: e :: q :: f :: r) := fun p hp => N p (by
  simp only [List.mem_cons] at hp ⊢
  rcases hp with h | h | h | h | h | h | h | h
  · simp [h]
  · simp [h]
  · simp [h]
  · simp [h]
  · simp [h]
  · rw [h]; simp [hq]
  · simp [h]
  · simp [h])
noncomputable def stp (j : Nat) (r : Rw) (fr : List Rw) : List Rw :=
  match j with
  | 0 => fr
  | 1 => step1 (decide (r.1 - r.2.1 > 1)) (sortR (r.1 - 1) (r.2.1 + 1) r.2.2) fr
  | 2 => step1 (decide (r.1 - r.2.2 > 1)) (sortR (r.1 - 1) r.2.1 (r.2.2 + 1)) (step1 (decide (r.1 - r.2.1 > 1)) (sortR (r.1 - 1) (r.2.1 + 1) r.2.2) fr)
  | _ => stepRow r fr
theorem ints3' {a b c : Int} {vs : List Value} (h : IntsAre vs [a, b, c]) : ∃ t u v, vs = [.int a t, .int b u, .int c v] := by
  refine Classical.byContradiction fun hG => ?_
  obtain ⟨u0, z0, e0, k0⟩ := h.cons_inv
  obtain ⟨u1, z1, e1, k1⟩ := k0.cons_inv
  obtain ⟨u2, z2, e2, k2⟩ := k1.cons_inv
  exact hG ⟨u0, u1, u2, by rw [e0, e1, e2, k2.nil_inv]⟩
theorem step1_in {b : Bool} {r : Rw} {fr : List Rw} (h : r ∈ fr) : step1 b r fr = fr := by
  unfold step1
  rw [if_neg fun q => q.2 h]
theorem step1_no {b : Bool} {r : Rw} {fr : List Rw} (h : b = false) : step1 b r fr = fr := by
  unfold step1
  rw [if_neg fun q => by rw [h] at q; cases q.1]
theorem step1_out {b : Bool} {r : Rw} {fr : List Rw} (hb : b = true) (h : r ∉ fr) : step1 b r fr = fr ++ [r] := by
  unfold step1
  rw [if_pos ⟨hb, h⟩]
theorem app_ne {d : Addr} {a : Addr × Obj} {RF base : List (Addr × Obj)} (h : ∀ p ∈ RF ++ base, p.1 ≠ d) (ha : a.1 ≠ d) : ∀ p ∈ (RF ++ [a]) ++ base, p.1 ≠ d := by
  intro p hp
  simp only [List.mem_append, List.mem_cons, List.not_mem_nil, or_false] at hp
  rcases hp with (hp | rfl) | hp
  · exact h p (List.mem_append_left _ hp)
  · exact ha
  · exact h p (List.mem_append_right _ hp)
theorem app_off {I Fu : Addr} {a : Addr × Obj} {o o' : Obj} {pre RF base : List (Addr × Obj)} (h : Off1 I (pre ++ (Fu, o) :: (RF ++ base))) (ha : a.1 ≠ I) : Off1 I (pre ++ (Fu, o') :: ((RF ++ [a]) ++ base)) := by
  have hm := off1_mem h
  refine off1_of fun p hp => ?_
  simp only [List.mem_append, List.mem_cons, List.not_mem_nil, or_false] at hp
  rcases hp with hp | rfl | (hp | rfl) | hp
  · exact hm p (List.mem_append_left _ hp)
  · exact hm (Fu, o) (List.mem_append_right _ List.mem_cons_self)
  · exact hm p (List.mem_append_right _ (List.mem_cons_of_mem _ (List.mem_append_left _ hp)))
  · exact ha
  · exact hm p (List.mem_append_right _ (List.mem_cons_of_mem _ (List.mem_append_right _ hp)))
theorem moves_sub (a b c d i q : Addr × Obj) (r : List (Addr × Obj)) : ∀ p ∈ i :: r, p ∈ a :: b :: c :: d :: i :: q :: r := by
  intro p hp
  simp only [List.mem_cons] at hp ⊢
  rcases hp with h | h <;> simp [h]
theorem app_rows {prog : Program} {w : World} {A : Around} {E : Value → Shared → Prop} {s : Shared} {Q : Value → Shared → Prop} {h₀ : Heap} {L : Addr} {m : Str → Option Value} {S : Addr} {oS : Obj} {b : Addr × Obj} {pre RF base : List (Addr × Obj)} {Fu : Addr} {cF : Nat}
    (F : Fr h₀ L s.heap m) (N : News h₀ L s.heap ((S, oS) :: b :: (pre ++ (Fu, W.listOf (refs RF).toArray cF) :: (RF ++ base)))) (hpre : ∀ p ∈ pre, p.1 ≠ Fu) (hn : ∀ p ∈ RF ++ base, p.1 ≠ Fu) (hl : RF.length ≤ 1000) (ha : S ≠ Fu)
    (h : ∀ h', Fr h₀ L h' m → News h₀ L h' (pre ++ (Fu, W.listOf (refs (RF ++ [(S, oS)])).toArray (cF + 1)) :: ((RF ++ [(S, oS)]) ++ base)) → Q .none { s with heap := h' }) :
    wpAny (model prog w) A (call (.builtin "list.append") [.ref Fu, .ref S]) Q E s := by
  have hm : (Fu, W.listOf (refs RF).toArray cF) ∈ (S, oS) :: b :: (pre ++ (Fu, W.listOf (refs RF).toArray cF) :: (RF ++ base)) := List.mem_cons_of_mem _ (List.mem_cons_of_mem _ (List.mem_append_right _ List.mem_cons_self))
  refine append_at (hsz := by rw [PySem.sizeLine_eq, List.size_toArray, List.length_map]; omega) (N _ hm).1 fun h' hs hD => h h' (F.change hs (N _ hm).2.1 (N _ hm).2.2) fun p hp => ?_
  have old : ∀ p, p ∈ (S, oS) :: b :: (pre ++ (Fu, W.listOf (refs RF).toArray cF) :: (RF ++ base)) → p.1 ≠ Fu → h'.get? p.1 = some p.2 ∧ p.1 ≠ L ∧ h₀.get? p.1 = none := fun p hp hne => ⟨hs.extBut _ _ hne (N p hp).1, (N p hp).2⟩
  simp only [List.mem_append, List.mem_cons, List.not_mem_nil, or_false] at hp
  rcases hp with hp | rfl | (hp | rfl) | hp
  · exact old p (List.mem_cons_of_mem _ (List.mem_cons_of_mem _ (List.mem_append_left _ hp))) (hpre p hp)
  · refine ⟨?_, (N _ hm).2⟩
    rw [hD]
    simp
  · exact old p (List.mem_cons_of_mem _ (List.mem_cons_of_mem _ (List.mem_append_right _ (List.mem_cons_of_mem _ (List.mem_append_left _ hp))))) (hn p (List.mem_append_left _ hp))
  · exact old _ List.mem_cons_self ha
  · exact old p (List.mem_cons_of_mem _ (List.mem_cons_of_mem _ (List.mem_append_right _ (List.mem_cons_of_mem _ (List.mem_append_right _ hp))))) (hn p (List.mem_append_right _ hp))
theorem ansM_nil {k : Nat} {rows : List Rw} {g : Rw} {d : Int} (h : rows = []) : ansM k rows g d = -1 := by
  subst h
  cases k <;> rfl
theorem ansM_in {k : Nat} {rows : List Rw} {g : Rw} {d : Int} (h : g ∈ rows) (hi : iterM k rows = []) : ansM k rows g d = d := by
  cases k with
  | zero =>
    have : rows = [] := hi
    rw [this] at h; cases h
  | succ k =>
    unfold ansM
    rw [if_neg (by intro q; rw [q] at h; cases h), if_pos h]
theorem pairs3 {Ta Tb Tc Fu : Addr} {led : List (Addr × Obj)} {a0 a1 b0 b1 c0 c1 : Tok} {x1 x2 x3 : Int} {fr : List Rw} (na : Ta ≠ Fu) (nb : Tb ≠ Fu) (nc : Tc ≠ Fu)
    (h0 : (Ta, kdv_tup [.int 0 a0, .int 1 a1]) ∈ led) (h1 : (Tb, kdv_tup [.int 0 b0, .int 2 b1]) ∈ led) (h2 : (Tc, kdv_tup [.int 1 c0, .int 2 c1]) ∈ led) :
    ∀ (j : Nat) (v : Value), [Value.ref Ta, .ref Tb, .ref Tc].toArray[j]? = some v → ∃ (T : Addr) (i1 i2 : Int) (u1 u2 : Tok), v = .ref T ∧ (T, kdv_tup [.int i1 u1, .int i2 u2]) ∈ led ∧ T ≠ Fu ∧ Is3 i1 ∧ Is3 i2 ∧
      step1 (decide (selI x1 x2 x3 i1 - selI x1 x2 x3 i2 > 1)) (sortR (updI 0 i2 (updI 0 i1 x1 (selI x1 x2 x3 i1 - 1)) (selI (updI 0 i1 x1 (selI x1 x2 x3 i1 - 1)) (updI 1 i1 x2 (selI x1 x2 x3 i1 - 1)) (updI 2 i1 x3 (selI x1 x2 x3 i1 - 1)) i2 + 1))
        (updI 1 i2 (updI 1 i1 x2 (selI x1 x2 x3 i1 - 1)) (selI (updI 0 i1 x1 (selI x1 x2 x3 i1 - 1)) (updI 1 i1 x2 (selI x1 x2 x3 i1 - 1)) (updI 2 i1 x3 (selI x1 x2 x3 i1 - 1)) i2 + 1))
        (updI 2 i2 (updI 2 i1 x3 (selI x1 x2 x3 i1 - 1)) (selI (updI 0 i1 x1 (selI x1 x2 x3 i1 - 1)) (updI 1 i1 x2 (selI x1 x2 x3 i1 - 1)) (updI 2 i1 x3 (selI x1 x2 x3 i1 - 1)) i2 + 1))) (stp j (x1, x2, x3) fr) = stp (j + 1) (x1, x2, x3) fr
  | 0, _, e => ⟨Ta, _, _, _, _, (Option.some.inj e).symm, h0, na, .inl rfl, .inr (.inl rfl), rfl⟩
  | 1, _, e => ⟨Tb, _, _, _, _, (Option.some.inj e).symm, h1, nb, .inl rfl, .inr (.inr rfl), rfl⟩
  | 2, _, e => ⟨Tc, _, _, _, _, (Option.some.inj e).symm, h2, nc, .inr (.inl rfl), .inr (.inr rfl), rfl⟩
  | j + 3, _, e => by simp at e
theorem skip2 {a b : Addr × Obj} {r : List (Addr × Obj)} : ∀ p ∈ a :: r, p ∈ a :: b :: r := fun p hp => by
  rcases List.mem_cons.mp hp with h | h
  · exact h ▸ .head _
  · exact .tail _ (.tail _ h)
theorem put2 {h₀ h : Heap} {L : Addr} {a b : Addr × Obj} {r : List (Addr × Obj)} (N : News h₀ L h (a :: r)) (hb : b ∈ r) : News h₀ L h (a :: b :: r) := fun p hp => by
  rcases List.mem_cons.mp hp with h | hp
  · exact h ▸ N _ (.head _)
  rcases List.mem_cons.mp hp with h | hp
  · exact h ▸ N _ (.tail _ hb)
  · exact N _ (.tail _ hp)
local macro_rules | `(tactic| walk_at "subscriptTail") => `(tactic| ((with_reducible show wpAny _ _ (subscriptTail _ _ (Value.ref _) (Value.int _ _)) _ _ _); k_dflt (refine item_selL (by exact News.isList (by k_asm) (by k_mem)) (by assumption) ?_)))
local macro_rules | `(tactic| walk_at "getItem ref int") => `(tactic| (k_dflt (refine get_sel (by exact News.isList (by k_asm) (by k_mem)) (by assumption) ?_)))
local macro_rules | `(tactic| walk_at "setItem ref int") => `(tactic| (k_dflt (refine' ki_set ?F ?N ?a ?b ?e ?U ?_; (case F | N => k_asm); (case U => k_upd); (case a => exact is3_lo (by assumption)); (case b => exact is3_hi (by assumption)); (case e => exact ki3 (by assumption))); intro h9 F9 N9; (try dsimp only [List.nil_append, List.cons_append] at N9)))
set_option maxHeartbeats 8000000 in
theorem c_moves (Sa Ga : Addr) (so go : Obj) (r g : Rw) (hs : RowAt r so) (hg : RowAt g go) (news : List (Addr × Obj)) : ClaimR 2 w mean mg mb 152 ((Sa, so) :: (Ga, go) :: news) (iterM 9 [r] = [] ∧ ∀ j, j ≤ 9 → (iterM j [r]).length ≤ 100) [.ref Sa, .ref Ga] (One ((Sa, so) :: (Ga, go) :: news) fun u => .int (ansM 9 [r] g 0) u) := by
  intro dp un gd cn cs ad ccd cl outer A₀ base h₀ L m s Q E B F X N T hk hpre hd hu hret
  refine wpAny_call ?_
  k_dflt cell_enter
  rename_i g1 L1 hp1 FG1 F1 N1 B1 X1 T1
  walk_at "to while"
  rename Fr g1 L1 _ _ => F2
  rename News g1 L1 _ _ => N2
  refine While_inv2 (J := MInv g (ansM 9 [r] g 0) Ga go ((Sa, so) :: news)) (n₀ := 9) (news := (_, W.listOf (refs [(Sa, so)]).toArray 0) :: ([(Sa, so)] ++ (Ga, go) :: (Sa, so) :: news)) F2 ?_ ⟨_, 0, [(Sa, so)], [r], 0, _, rfl, rfl, rfl, rfl, ⟨hs, trivial⟩, rfl, hpre.1, hpre.2⟩ ?_
  · exact moves_led0 N2
  · clear F2 N2
    intro k m₁ led₁ h₁ tk₁ F1 N1 hJ0
    refine Classical.byContradiction fun hG9 => ?_
    obtain ⟨Ly, c, RL, rows, mv, tm, e1, e2, e3, rfl, hr, ha, hi, hb⟩ := hJ0
    refine hG9 ?_
    clear hG9
    walk_at "to readyF"
    · rename rows = [] => hz
      rename News h₀ L _ _ => N9
      exact cb_retI (Q := Q) (fun t h' tk' F N => hret _ _ h' tk' ⟨t, rfl, rfl⟩ F N) (by rw [← ha]; exact (ansM_nil hz).symm) (by k_asm) (moves_own (News.tail' (News.tail' N9)))
    · rename g ∈ rows => hz
      have hans : mv = ansM 9 [r] g 0 := by rw [← ha]; exact (ansM_in hz hi).symm
      dsimp only
      change qk (Flow.ret (Value.int mv tm)) _
      k_steps
      rename News h₀ L _ _ => N9
      exact cb_retI (Q := Q) (fun t h' tk' F N => hret _ _ h' tk' ⟨t, rfl, rfl⟩ F N) hans (by k_asm) (moves_own (News.tail' (News.tail' N9)))
    · rename ¬g ∈ rows => hng
      rename ¬rows = [] => hne
      rename_i Fu1 lF lt1 hF2 FF NF
      refine ReadyF.lst (by rfl) (by k_asm) (moves_drop2 NF) ⟨_, by walk_at "memt", rfl, _, rfl⟩ (by passes_own) ?_
      intro g5
      have hRn : (refs RL).toArray.size = rows.length := by rw [List.size_toArray, List.length_map, hr.len]
      obtain ⟨base, hbase⟩ : ∃ base, base = (Ly, W.listOf (refs RL).toArray c) :: (RL ++ (Ga, go) :: (Sa, so) :: news) := ⟨_, rfl⟩
      rw [← hbase]
      refine ForRest.inv (fun i m led => ∃ (Fu : Addr) (cF : Nat) (RF : List (Addr × Obj)) (fr : List Rw), m (Str.ofString "further") = some (.ref Fu) ∧ m (Str.ofString "moves") = some (.int mv tm) ∧ m (Str.ofString "goal") = some (.ref Ga) ∧
        led = (Fu, W.listOf (refs RF).toArray cF) :: (RF ++ base) ∧ RowsAt fr RF ∧ fr = (rows.take i).foldl (fun fr r => stepRow r fr) [] ∧ fr.length ≤ 3 * i ∧ ∀ p ∈ RF ++ base, p.1 ≠ Fu) ?_ ?_ ?_
      · exact ⟨Fu1, 0, [], [], rfl, by with_unfolding_all exact e2, by with_unfolding_all exact e3, rfl, trivial, rfl, Nat.zero_le _, by rw [hbase]; exact tbn_neAll lt1.2⟩
      · intro i m₂ led₂ v I oI h₂ tk₂ hin hJ0 hv F6 N6 off6
        refine Classical.byContradiction fun hG9 => ?_
        obtain ⟨Fu2, cF, RF, fr, q1, q2, q3, rfl, hfr, hfold, hlen, hne2⟩ := hJ0
        refine hG9 ?_
        clear hG9
        refine Classical.byContradiction fun hG9 => ?_
        obtain ⟨p, hp, rfl⟩ := refs_at hv
        refine hG9 ?_
        clear hG9
        refine Classical.byContradiction fun hG9 => ?_
        obtain ⟨r', hr', hro⟩ := hr.at hp
        refine hG9 ?_
        clear hG9
        obtain ⟨ra, ro⟩ := p
        have hpb : (ra, ro) ∈ base := by rw [hbase]; exact List.mem_cons_of_mem _ (List.mem_append_left _ (List.mem_of_getElem? hp))
        dsimp only
        walk_at "to readyF"
        rename News g1 L1 _ _ => N7
        rename_i hA Ta hB la Tb hC lb Tc hD lc Td hE F7 ld
        have na : Ta ≠ Fu2 := Ne.symm (Nat.ne_of_lt la.2.1)
        have nb : Tb ≠ Fu2 := Ne.symm (Nat.ne_of_lt lb.2.2.1)
        have nc : Tc ≠ Fu2 := Ne.symm (Nat.ne_of_lt lc.2.2.2.1)
        have nd : Td ≠ Fu2 := Ne.symm (Nat.ne_of_lt ld.2.2.2.2.1)
        have nI : I ≠ Fu2 := Ne.symm off6.1
        have nr : ra ≠ Fu2 := hne2 _ (List.mem_append_right _ hpb)
        clear la lb lc ld
        have N8 := moves_ins (q := (ra, ro)) (List.mem_append_right _ hpb) N7
        refine Classical.byContradiction fun hG9 => ?_
        obtain ⟨x1, x2, x3⟩ := r'
        refine hG9 ?_
        clear hG9
        refine Classical.byContradiction fun hG9 => ?_
        obtain ⟨y1, y2, y3, yc, rfl⟩ := hro
        refine hG9 ?_
        clear hG9
        refine ReadyF.tup (by rfl) (by k_asm) N8 ⟨_, by walk_at "memt", rfl, _, rfl⟩ (by passes_own) ?_
        intro g6
        refine ForRest.inv (fun j m led => ∃ (cF' : Nat) (RF' : List (Addr × Obj)) (fr' : List Rw), m (Str.ofString "row") = some (.ref ra) ∧ m (Str.ofString "further") = some (.ref Fu2) ∧ m (Str.ofString "moves") = some (.int mv tm) ∧ m (Str.ofString "goal") = some (.ref Ga) ∧
          led = (Td, kdv_tup [.ref Ta, .ref Tb, .ref Tc]) :: (Tc, kdv_tup [.int 1 (tk + 1 + 1 + 1 + 1), .int 2 (tk + 1 + 1 + 1 + 1 + 1)]) :: (Tb, kdv_tup [.int 0 (tk + 1 + 1), .int 2 (tk + 1 + 1 + 1)]) :: (Ta, kdv_tup [.int 0 tk, .int 1 (tk + 1)]) :: (I, oI) :: (ra, W.listOf #[.int x1 y1, .int x2 y2, .int x3 y3] yc) :: (Fu2, W.listOf (refs RF').toArray cF') :: (RF' ++ base) ∧ RowsAt fr' RF' ∧ fr' = stp j (x1, x2, x3) fr ∧ fr'.length ≤ 3 * i + j ∧ (∀ p ∈ RF' ++ base, p.1 ≠ Fu2) ∧ ∀ p ∈ RF' ++ base, p.1 ≠ I) ?_ ?_ ?_
        · exact ⟨cF, RF, fr, by with_unfolding_all rfl, by with_unfolding_all exact q1, by with_unfolding_all exact q2, by with_unfolding_all exact q3, rfl, hfr, rfl, hlen, hne2, off1_mem off6.2⟩
        · intro j m₃ led₃ v I2 oI2 h₃ tk₃ hj hJ0 hv2 F8 N9 off8
          refine Classical.byContradiction fun hG9 => ?_
          obtain ⟨cF', RF', fr', s1, s2, s3, s4, rfl, hfr', hst, hlen', hn1, hn2⟩ := hJ0
          refine hG9 ?_
          clear hG9
          have hj3 : j < 3 := hj
          have hle3 : 3 * i ≤ 300 := by have := hb 0 (Nat.zero_le _); rw [hRn] at hin; have : rows.length ≤ 100 := this; omega
          refine Classical.byContradiction fun hG9 => ?_
          obtain ⟨T9, i1, i2, u1, u2, rfl, hm9, n9, hi1, hi2, hstp⟩ := pairs3 (x1 := x1) (x2 := x2) (x3 := x3) (fr := fr) na nb nc (led := (Td, kdv_tup [.ref Ta, .ref Tb, .ref Tc]) :: (Tc, kdv_tup [.int 1 (tk + 1 + 1 + 1 + 1), .int 2 (tk + 1 + 1 + 1 + 1 + 1)]) :: (Tb, kdv_tup [.int 0 (tk + 1 + 1), .int 2 (tk + 1 + 1 + 1)]) :: (Ta, kdv_tup [.int 0 tk, .int 1 (tk + 1)]) :: (I, oI) :: (ra, W.listOf #[.int x1 y1, .int x2 y2, .int x3 y3] yc) :: (Fu2, W.listOf (refs RF').toArray cF') :: (RF' ++ base)) (by walk_at "memt") (by walk_at "memt") (by walk_at "memt") j v hv2
          refine hG9 ?_
          clear hG9
          have N9 := put2 N9 hm9
          try dsimp only
          k_steps
          · rename 1 < _ => hc
            rename News g1 L1 _ _ => N9
            rename Fr g1 L1 _ _ => F9
            rename IntsAre _ _ => iA
            rename List.Perm _ _ => pP
            rename List.Pairwise _ _ => oP
            rename (_ < _) ∧ (_ < _) ∧ _ => l9
            have hn := sorted_R pP oP
            subst hn
            obtain ⟨r1, r2, r3, rfl⟩ := ints3' iA
            refine notIn_rows (r := sortR _ _ _) N9 List.mem_cons_self ⟨r1, r2, r3, _, rfl⟩ (by walk_at "memt") hfr' (by walk_at "subt") (by ktr_units) ?_
            k_steps
            · rename sortR _ _ _ ∈ _ => hm
              exact ForEnd.intro (by k_asm) (by k_asm) (fun p hp => List.mem_cons_of_mem _ (List.mem_cons_of_mem _ (skip2 p hp))) off8 ⟨_, List.mem_cons_self, rfl, _, rfl⟩ ⟨cF', RF', fr', by with_unfolding_all exact s1, by with_unfolding_all exact s2, by with_unfolding_all exact s3, by with_unfolding_all exact s4, rfl, hfr', ((step1_in hm).symm.trans (congrArg _ hst)).trans hstp, Nat.le_succ_of_le hlen', hn1, hn2⟩
            · rename ¬sortR _ _ _ ∈ _ => hm
              have hlR : RF'.length ≤ 1000 := by rw [hfr'.len]; omega
              have l9b := l9.2.1
              have l9h := l9.2.2.2.2.2.2.2.1
              have l9j := l9.2.2.2.2.2.2.2.2.2.1
              refine' app_rows (pre := [(I2, oI2), _, _, _, _, _, _, _]) ?ka0 ?kb0 ?kc0 ?kd0 ?ke0 ?kf0 ?kg0
              case ka0 => exact F9
              case kb0 => exact N9
              case kc0 => simp only [List.mem_cons, List.not_mem_nil, or_false]; rintro p (rfl | rfl | rfl | rfl | rfl | rfl | rfl | rfl) <;> first | exact Ne.symm off8.2.2.2.2.2.2.1 | exact n9 | exact nd | exact nc | exact nb | exact na | exact nI | exact nr
              case kd0 => exact hn1
              case ke0 => exact hlR
              case kf0 => exact Ne.symm (Nat.ne_of_lt l9j)
              intro h10 F10 N10
              clear N9 F9
              k_steps
              refine ForEnd.intro (by k_asm) (by k_asm) (fun p hp => skip2 p hp) (app_off (pre := [_, _, _, _, _, _]) off8 (Ne.symm (Nat.ne_of_lt l9b))) ⟨_, List.mem_cons_self, rfl, _, rfl⟩ ⟨_, _, _, by with_unfolding_all exact s1, by with_unfolding_all exact s2, by with_unfolding_all exact s3, by with_unfolding_all exact s4, rfl, hfr'.snoc ⟨r1, r2, r3, _, rfl⟩, ((step1_out (decide_eq_true hc) hm).symm.trans (congrArg _ hst)).trans hstp, by rw [List.length_append]; exact Nat.succ_le_succ hlen', ?_, ?_⟩
              · exact app_ne hn1 (Ne.symm (Nat.ne_of_lt l9j))
              · exact app_ne hn2 (Ne.symm (Nat.ne_of_lt l9h))
          · rename ¬1 < _ => hc
            exact ForEnd.intro (by k_asm) (by k_asm) skip2 off8 ⟨_, List.mem_cons_self, rfl, _, rfl⟩ ⟨cF', RF', fr', by with_unfolding_all exact s1, by with_unfolding_all exact s2, by with_unfolding_all exact s3, by with_unfolding_all exact s4, rfl, hfr', ((step1_no (decide_eq_false hc)).symm.trans (congrArg _ hst)).trans hstp, Nat.le_succ_of_le hlen', hn1, hn2⟩
        · intro m₃ led₃ hJ0 h₃ tk₃ F8 N8
          refine Classical.byContradiction fun hG9 => ?_
          obtain ⟨cF', RF', fr', s1, s2, s3, s4, rfl, hfr', hst, hlen', hn1, hn2⟩ := hJ0
          refine hG9 ?_
          clear hG9
          dsimp only
          k_steps
          refine ForEnd.intro (by k_asm) (by k_asm) (moves_sub _ _ _ _ _ _ _) (by exact ⟨Ne.symm nI, off1_of hn2⟩) ⟨_, List.mem_cons_of_mem _ (List.mem_append_right _ (by rw [hbase]; exact List.mem_cons_self)), rfl, _, rfl⟩ ⟨Fu2, cF', RF', fr', by with_unfolding_all exact s2, by with_unfolding_all exact s3, by with_unfolding_all exact s4, rfl, hfr', ?_, hlen', hn1⟩
          rw [List.take_add_one, hr', List.foldl_append, ← hfold]
          exact hst
      · intro m₂ led₂ hJ0 h₂ tk₂ F6 N6
        refine Classical.byContradiction fun hG9 => ?_
        obtain ⟨Fu2, cF, RF, fr, q1, q2, q3, rfl, hfr, hfold, hlen, hne2⟩ := hJ0
        refine hG9 ?_
        clear hG9
        dsimp only
        k_steps
        rename Fr g1 L1 _ _ => F7
        rename News g1 L1 _ _ => N7
        rw [hRn, List.take_length] at hfold
        obtain ⟨k', rfl⟩ : ∃ k', k = k' + 1 := by
          cases k with
          | zero => exact absurd hi hne
          | succ k' => exact ⟨k', rfl⟩
        have hln : fr = layerNext rows := hfold
        subst hln
        refine ⟨_, _, _, _, k', rfl, F7, moves_cut (hbase ▸ N7), Nat.lt_succ_self _, Fu2, cF, RF, layerNext rows, mv + 1, _, by with_unfolding_all rfl, by with_unfolding_all rfl, by with_unfolding_all exact q3, rfl, hfr, ?_, hi, fun j hj => hb (j + 1) (Nat.succ_le_succ hj)⟩
        rw [← ha]
        show _ = if rows = [] then -1 else if g ∈ rows then mv else ansM k' (layerNext rows) g (mv + 1)
        rw [if_neg hne, if_neg hng]
end
section
open PySem PySem.W PySem.Calls PyProof.Rows PySem.Spec PySem.Flt
noncomputable def ovB (M1 m1 M2 m2 : Nat) : Bool := decide (M2 ≤ M1) && decide (m1 ≤ m2)
noncomputable def okB (M m : Nat) : Bool := decide (M + 2 * m ≤ 8) && decide (8 ≤ 2 * M + m)
noncomputable def rowR (M m : Nat) : Rw := ((M : Nat), (8 - M - m : Nat), (m : Nat))
noncomputable def pairs : List (Nat × Nat) := [(8, 0), (7, 0), (6, 0), (6, 1), (5, 0), (5, 1), (4, 0), (4, 1), (4, 2), (3, 2)]
theorem pairs_all : ((List.range 9).all fun M => (List.range 9).all fun m => !(okB M m) || pairs.contains (M, m)) = true := by decide +kernel
theorem pairs_in {M m : Nat} (h1 : M + 2 * m ≤ 8) (h2 : 8 ≤ 2 * M + m) : (M, m) ∈ pairs := by
  have h := pairs_all
  simp only [List.all_eq_true, List.mem_range, Bool.or_eq_true, Bool.not_eq_true'] at h
  rcases h M (by omega) m (by omega) with h | h
  · simp [okB, h1, h2] at h
  · simpa using h
theorem two_all {P : Nat → Nat → Nat → Nat → Bool} (h : (pairs.all fun p => pairs.all fun q => P p.1 p.2 q.1 q.2) = true) {M1 m1 M2 m2 : Nat} (a1 : M1 + 2 * m1 ≤ 8) (a2 : 8 ≤ 2 * M1 + m1) (b1 : M2 + 2 * m2 ≤ 8) (b2 : 8 ≤ 2 * M2 + m2) : P M1 m1 M2 m2 = true := by
  rw [List.all_eq_true] at h
  have h := h _ (pairs_in a1 a2)
  rw [List.all_eq_true] at h
  exact h _ (pairs_in b1 b2)
theorem top_all : (pairs.all fun p => pairs.all fun q => (Float64.cmp (topF p.1) (topF q.1) == some .gt || Float64.cmp (topF p.1) (topF q.1) == some .eq) == decide (q.1 ≤ p.1)) = true := by decide +kernel
theorem low_all : (pairs.all fun p => pairs.all fun q => (Float64.cmp (lowF p.1 p.2) (lowF q.1 q.2) == some .lt || Float64.cmp (lowF p.1 p.2) (lowF q.1 q.2) == some .eq) == decide (p.2 ≤ q.2)) = true := by decide +kernel
theorem kept_all : (pairs.all fun p => pairs.all fun q => ((List.range 9).all fun i => decide ((0 : Int) ≤ (keptM p.1 p.2 i : Nat) - (keptM q.1 q.2 i : Nat))) == ovB p.1 p.2 q.1 q.2) = true := by decide +kernel
noncomputable def gapI (M1 m1 M2 m2 : Nat) (x y z : Int) : Int := sumI M1 (8 - M1 - m1) m1 x y z - sumI M2 (8 - M2 - m2) m2 x y z
theorem gap_all : (pairs.all fun p => pairs.all fun q => (decide (0 ≤ gapI p.1 p.2 q.1 q.2 1 1 3) && decide (0 ≤ gapI p.1 p.2 q.1 q.2 1 3 3)) == ovB p.1 p.2 q.1 q.2) = true := by decide +kernel
theorem moves_all : (pairs.all fun p => pairs.all fun q => ansM 9 [rowR p.1 p.2] (rowR q.1 q.2) 0 == (if ovB p.1 p.2 q.1 q.2 then max ((p.1 : Int) - (q.1 : Int)) ((q.2 : Int) - (p.2 : Int)) else -1)) = true := by decide +kernel
theorem fuel_all : (pairs.all fun p => (iterM 9 [rowR p.1 p.2]).isEmpty && (List.range 10).all fun j => decide ((iterM j [rowR p.1 p.2]).length ≤ 100)) = true := by decide +kernel
noncomputable def sumN (a b c x y z : Nat) : Nat := x ^ a * y ^ b * z ^ c + x ^ a * z ^ b * y ^ c + y ^ a * x ^ b * z ^ c + y ^ a * z ^ b * x ^ c + z ^ a * x ^ b * y ^ c + z ^ a * y ^ b * x ^ c
theorem sum_N (a b c x y z : Nat) : sumI a b c (x : Nat) (y : Nat) (z : Nat) = (sumN a b c x y z : Nat) := by
  unfold sumI sumN
  push_cast
  rfl
theorem spot_all : (pairs.all fun p => pairs.all fun q => !(ovB p.1 p.2 q.1 q.2) || ([1, 2, 3, 4, 5].all fun x => [1, 2, 3, 4, 5].all fun y => [1, 2, 3, 4, 5].all fun z =>
    Nat.ble (sumN q.1 (8 - q.1 - q.2) q.2 x y z) (sumN p.1 (8 - p.1 - p.2) p.2 x y z) && (Nat.beq (sumN p.1 (8 - p.1 - p.2) p.2 x y z) (sumN q.1 (8 - q.1 - q.2) q.2 x y z) == (Nat.beq p.1 q.1 && Nat.beq p.2 q.2 || Nat.beq x y && Nat.beq y z)))) = true := by decide +kernel
noncomputable def mxF (M1 m1 M2 m2 : Nat) : UInt64 := if (Float64.cmp (Float64.sub (topF M1) (topF M2)) (Float64.sub (lowF M2 m2) (lowF M1 m1)) == some .lt) = true then Float64.sub (lowF M2 m2) (lowF M1 m1) else Float64.sub (topF M1) (topF M2)
theorem mx_all : (pairs.all fun p => pairs.all fun q => !(ovB p.1 p.2 q.1 q.2) || (Float64.cmpInt (mxF p.1 p.2 q.1 q.2) (max ((p.1 : Int) - (q.1 : Int)) ((q.2 : Int) - (p.2 : Int))) == some .eq)) = true := by decide +kernel
theorem spot_ok {M1 m1 M2 m2 : Nat} {x y z : Int} (a1 : M1 + 2 * m1 ≤ 8) (a2 : 8 ≤ 2 * M1 + m1) (b1 : M2 + 2 * m2 ≤ 8) (b2 : 8 ≤ 2 * M2 + m2) (hx : 1 ≤ x ∧ x ≤ 5) (hy : 1 ≤ y ∧ y ≤ 5) (hz : 1 ≤ z ∧ z ≤ 5) (ho : ovB M1 m1 M2 m2 = true) :
    0 ≤ gapI M1 m1 M2 m2 x y z ∧ (gapI M1 m1 M2 m2 x y z = 0 ↔ (M1 = M2 ∧ m1 = m2) ∨ (x = y ∧ y = z)) := by
  have h := two_all (P := fun a b c d => !(ovB a b c d) || ([1, 2, 3, 4, 5].all fun x => [1, 2, 3, 4, 5].all fun y => [1, 2, 3, 4, 5].all fun z =>
    Nat.ble (sumN c (8 - c - d) d x y z) (sumN a (8 - a - b) b x y z) && (Nat.beq (sumN a (8 - a - b) b x y z) (sumN c (8 - c - d) d x y z) == (Nat.beq a c && Nat.beq b d || Nat.beq x y && Nat.beq y z)))) spot_all a1 a2 b1 b2
  rw [ho, Bool.not_true, Bool.false_or, List.all_eq_true] at h
  obtain ⟨X, rfl⟩ : ∃ X : Nat, x = (X : Nat) := ⟨x.toNat, by omega⟩
  obtain ⟨Y, rfl⟩ : ∃ Y : Nat, y = (Y : Nat) := ⟨y.toNat, by omega⟩
  obtain ⟨Z, rfl⟩ : ∃ Z : Nat, z = (Z : Nat) := ⟨z.toNat, by omega⟩
  have five : ∀ n : Nat, 1 ≤ (n : Int) ∧ (n : Int) ≤ 5 → n ∈ [1, 2, 3, 4, 5] := fun n hn => by
    have : n = 1 ∨ n = 2 ∨ n = 3 ∨ n = 4 ∨ n = 5 := by omega
    simpa using this
  have h := h X (five X hx)
  rw [List.all_eq_true] at h
  have h := h Y (five Y hy)
  rw [List.all_eq_true] at h
  have h := h Z (five Z hz)
  rw [Bool.and_eq_true] at h
  obtain ⟨h1, h2⟩ := h
  have h1 := Nat.le_of_ble_eq_true h1
  have h2 := eq_of_beq h2
  unfold gapI
  rw [sum_N, sum_N]
  refine ⟨by omega, ?_⟩
  have e : (sumN M1 (8 - M1 - m1) m1 X Y Z = sumN M2 (8 - M2 - m2) m2 X Y Z) ↔ (M1 = M2 ∧ m1 = m2) ∨ (X = Y ∧ Y = Z) := by
    rw [← Nat.beq_eq, h2, Bool.or_eq_true, Bool.and_eq_true, Bool.and_eq_true, Nat.beq_eq, Nat.beq_eq, Nat.beq_eq, Nat.beq_eq]
  constructor
  · intro hz0
    have := e.mp (by omega)
    omega
  · intro hor
    have := e.mpr (by omega)
    omega
end
local macro_rules | `(tactic| walk_at "memt") => `(tactic| repeat (first | exact List.mem_cons_self | assumption | refine List.mem_cons_of_mem _ ?_))
section
open PySem PySem.W PySem.Calls PyProof.Rows PySem.Spec
set_option compiler.extract_closed false
variable {w : World} {mean : ExcName → Option Value} {mg mb : Str → Option Value}
open PyProof.Rows.LCg PyProof.Rows.LCt PySem.Flt
theorem kept_get {M1 m1 M2 m2 k : Nat} (h : k < 9) : ([((keptM M1 m1 0 : Nat) : Int), (keptM M1 m1 1 : Nat), (keptM M1 m1 2 : Nat), (keptM M1 m1 3 : Nat), (keptM M1 m1 4 : Nat), (keptM M1 m1 5 : Nat), (keptM M1 m1 6 : Nat), (keptM M1 m1 7 : Nat), (keptM M1 m1 8 : Nat)].getD ((k : Int)).toNat 0 -
    [((keptM M2 m2 0 : Nat) : Int), (keptM M2 m2 1 : Nat), (keptM M2 m2 2 : Nat), (keptM M2 m2 3 : Nat), (keptM M2 m2 4 : Nat), (keptM M2 m2 5 : Nat), (keptM M2 m2 6 : Nat), (keptM M2 m2 7 : Nat), (keptM M2 m2 8 : Nat)].getD ((k : Int)).toNat 0 : Int) = ((keptM M1 m1 k : Nat) : Int) - (keptM M2 m2 k : Nat) := by
  match k, h with
  | 0, _ => rfl
  | 1, _ => rfl
  | 2, _ => rfl
  | 3, _ => rfl
  | 4, _ => rfl
  | 5, _ => rfl
  | 6, _ => rfl
  | 7, _ => rfl
  | 8, _ => rfl
  | k + 9, h => exact absurd h (by omega)
local macro_rules | `(tactic| walk_at "exec Assign cons ListComp") => `(tactic| ((with_reducible show wpAny _ _ (exec (PySem.Stmt.Assign [_] (PySem.Expr.ListComp _ [Comprehension.mk _ (PySem.Expr.Tuple _ _ _) [] _] _ _) _) _) _ _ _); k_here; k_dflt (refine door_A (by k_asm) (by rfl) (by with_unfolding_all rfl) ⟨by with_unfolding_all rfl, by rfl, by decide⟩ (fun _ => by rfl) (by rfl) (by rfl) ?_)))
local macro_rules | `(tactic| walk_at "eval Name") => `(tactic| ((with_reducible show wpAny _ _ (eval (PySem.Expr.Name _ _) (envOfC _ _ _ _ _)) _ _ _); with_unfolding_all refine nameX_L (by assumption) (by assumption) ?_))
theorem news2 {h₀ h : Heap} {L : Addr} {a b : Addr × Obj} {led : List (Addr × Obj)} (N : News h₀ L h led) (ha : a ∈ led) (hb : b ∈ led) : News h₀ L h (a :: b :: led) := fun p hp => by
  rcases List.mem_cons.mp hp with rfl | hp
  · exact N _ ha
  rcases List.mem_cons.mp hp with rfl | hp
  · exact N _ hb
  · exact N p hp
theorem use_sum {dp un : Nat} {gd : Option (List Code)} {cn : Str} {cs : Scope} {a' : Addr} {ccd : Value} {cl : List (Str × Addr)} {outer : List Env} {A₀ : Around} {base h₀ : Heap} {L : Addr} {m : Str → Option Value} {s : Shared} {Q E : Value → Shared → Prop} {led : List (Addr × Obj)}
    {R H : Addr} {cc a b c : Nat} {x y z : Int} {t1 t2 t3 t4 t5 t6 : Tok}
    (B : Below A₀ base outer h₀) (F : Fr h₀ L s.heap m) (X : (KW w.params).In h₀) (N : News h₀ L s.heap led) (T : Top (vw pw) (looseW (vw pw) looseL) mean mg mb h₀) (hk : cs.kind = .function)
    (hR : (R, W.listOf #[.int (a : Nat) t1, .int (b : Nat) t2, .int (c : Nat) t3] cc) ∈ led) (hH : (H, kdv_tup [.int x t4, .int y t5, .int z t6]) ∈ led) (hp : a ≤ 8 ∧ b ≤ 8 ∧ c ≤ 8 ∧ (1 ≤ x ∧ x ≤ 5) ∧ (1 ≤ y ∧ y ≤ 5) ∧ (1 ≤ z ∧ z ≤ 5)) (hd : dp + 1 < recursionLimit) (hu : un + 8 < cLine)
    (hQ : ∀ (t : Tok) (h' : Heap) (tk' : Nat), Fr h₀ L h' m → News h₀ L h' led → Q (.int (sumI a b c x y z) t) { s with heap := h', toks := tk' }) : wpAny (model pw w) (ktrTop dp un gd cn cs L a' ccd cl outer) (call (.ref 145) [.ref R, .ref H]) Q E s :=
  ClaimR.use (c_sum R H cc a b c x y z t1 t2 t3 t4 t5 t6 led) B F X (news2 N hR hH) T hk hp hd (by omega) (by
    intro v led' h' tk' hJ0 F' N'
    refine Classical.byContradiction fun hG9 => ?_
    obtain ⟨t, rfl, rfl⟩ := hJ0
    refine hG9 ?_
    clear hG9
    exact hQ t h' tk' F' (News.tail' (News.tail' N')))
local macro_rules | `(tactic| walk_at "call ref") => `(tactic| (k_dflt (refine' use_sum ?k1 ?k2 ?k3 ?k4 ?k5 ?k6 ?k7 ?k8 ?k9 ?k10 ?k11 ?_; (case k1 | k2 | k3 | k4 | k5 => k_asm); (case k6 => exact rfl); (case k7 | k8 => walk_at "memt"); (case k9 => exact ⟨by omega, by omega, by omega, by first | assumption | decide, by first | assumption | decide, by first | assumption | decide⟩); (case k10 => ktr_room); (case k11 => ktr_units); intro t9 h9 tk9 F9 N9; (try dsimp only); (try k_unmd); (try k_fold))))
theorem fuel_ok {M m : Nat} (h1 : M + 2 * m ≤ 8) (h2 : 8 ≤ 2 * M + m) : iterM 9 [rowR M m] = [] ∧ ∀ j, j ≤ 9 → (iterM j [rowR M m]).length ≤ 100 := by
  have h := List.all_eq_true.mp fuel_all _ (pairs_in h1 h2)
  rw [Bool.and_eq_true, List.all_eq_true] at h
  exact ⟨List.isEmpty_iff.mp h.1, fun j hj => of_decide_eq_true (h.2 j (List.mem_range.mpr (by omega)))⟩
theorem use_moves {dp un : Nat} {gd : Option (List Code)} {cn : Str} {cs : Scope} {a' : Addr} {ccd : Value} {cl : List (Str × Addr)} {outer : List Env} {A₀ : Around} {base h₀ : Heap} {L : Addr} {m : Str → Option Value} {s : Shared} {Q E : Value → Shared → Prop} {led : List (Addr × Obj)}
    {R H : Addr} {cc cc' M1 m1 M2 m2 : Nat} {t1 t2 t3 t4 t5 t6 : Tok}
    (B : Below A₀ base outer h₀) (F : Fr h₀ L s.heap m) (X : (KW w.params).In h₀) (N : News h₀ L s.heap led) (T : Top (vw pw) (looseW (vw pw) looseL) mean mg mb h₀) (hk : cs.kind = .function)
    (hR : (R, W.listOf #[.int (M1 : Nat) t1, .int (8 - M1 - m1 : Nat) t2, .int (m1 : Nat) t3] cc) ∈ led) (hH : (H, W.listOf #[.int (M2 : Nat) t4, .int (8 - M2 - m2 : Nat) t5, .int (m2 : Nat) t6] cc') ∈ led) (h1 : M1 + 2 * m1 ≤ 8) (h2 : 8 ≤ 2 * M1 + m1) (hd : dp + 2 < recursionLimit) (hu : un + 16 < cLine)
    (hQ : ∀ (t : Tok) (n : Int) (h' : Heap) (tk' : Nat), n = ansM 9 [rowR M1 m1] (rowR M2 m2) 0 → Fr h₀ L h' m → News h₀ L h' led → Q (.int n t) { s with heap := h', toks := tk' }) : wpAny (model pw w) (ktrTop dp un gd cn cs L a' ccd cl outer) (call (.ref 152) [.ref R, .ref H]) Q E s :=
  ClaimR.use (c_moves R H _ _ (rowR M1 m1) (rowR M2 m2) ⟨_, _, _, _, rfl⟩ ⟨_, _, _, _, rfl⟩ led) B F X (news2 N hR hH) T hk (fuel_ok h1 h2) hd (by omega) (by
    intro v led' h' tk' hJ0 F' N'
    refine Classical.byContradiction fun hG9 => ?_
    obtain ⟨t, rfl, rfl⟩ := hJ0
    refine hG9 ?_
    clear hG9
    exact hQ t _ h' tk' rfl F' (News.tail' (News.tail' N')))
local macro_rules | `(tactic| walk_at "call ref") => `(tactic| (k_dflt (refine' use_moves ?k1 ?k2 ?k3 ?k4 ?k5 ?k6 ?k7 ?k8 ?k9 ?k10 ?k11 ?k12 ?_; (case k1 | k2 | k3 | k4 | k5 => k_asm); (case k6 => exact rfl); (case k7 | k8 => walk_at "memt"); (case k9 | k10 => assumption); (case k11 => ktr_room); (case k12 => ktr_units); intro t9 n9 h9 tk9 E9 F9 N9; (try dsimp only); (try k_unmd); (try k_fold))))
theorem bne_no {o : Option Ordering} (h : (o == some .eq) = true) : (o != some .eq) = false := by
  rw [bne, h]; rfl
theorem eq_rows {prog : Program} {A : Around} {E : Value → Shared → Prop} {s : Shared} {Q : Value → Shared → Prop} {h₀ : Heap} {L : Addr} {led : List (Addr × Obj)} {R H : Addr} {a b c a' b' c' cc cc' : Nat} {t1 t2 t3 t4 t5 t6 : Tok} (N : News h₀ L s.heap led)
    (hR : (R, W.listOf #[.int (a : Nat) t1, .int (b : Nat) t2, .int (c : Nat) t3] cc) ∈ led) (hH : (H, W.listOf #[.int (a' : Nat) t4, .int (b' : Nat) t5, .int (c' : Nat) t6] cc') ∈ led) (hu : A.units + 8 < cLine) (h : Q (.bool (decide (a = a' ∧ b = b' ∧ c = c'))) s) : wpAny (model prog w) A (compareOp .Eq (.ref R) (.ref H)) Q E s := by
  obtain ⟨as, h1⟩ := row_reads (r := ((a : Nat), (b : Nat), (c : Nat))) N hR ⟨_, _, _, _, rfl⟩
  obtain ⟨bs, h2⟩ := row_reads (r := ((a' : Nat), (b' : Nat), (c' : Nat))) N hH ⟨_, _, _, _, rfl⟩
  refine PySem.SeqAt.compareEq_reads h1 h2 rfl rfl ?_ ?_
  · have := depth_row ((a : Nat), (b : Nat), (c : Nat))
    omega
  · rw [eqv_row, show decide ((((a : Nat) : Int), ((b : Nat) : Int), ((c : Nat) : Int)) = (((a' : Nat) : Int), ((b' : Nat) : Int), ((c' : Nat) : Int))) = decide (a = a' ∧ b = b' ∧ c = c') by rw [decide_eq_decide]; simp [Int.natCast_inj]]
    exact h
local macro_rules | `(tactic| walk_at "compareOp Eq ref ref") => `(tactic| (k_here; k_dflt (refine eq_rows (by k_asm) (by walk_at "memt") (by walk_at "memt") (by ktr_units) ?_)))
local macro_rules | `(tactic| walk_at "call builtin:min") => `(tactic| ((with_reducible show wpAny _ _ (call _ [Value.ref _]) _ _ _); k_dflt (refine min_tup (by rfl) (by k_asm) (by k_asm) (by walk_at "memt") ?_); intro h9 tk9 n9 t9 A9 B9 F9 N9))
local macro_rules | `(tactic| walk_at "call builtin:max") => `(tactic| ((with_reducible show wpAny _ _ (call _ [Value.ref _]) _ _ _); k_dflt (refine max_tup (by rfl) (by k_asm) (by k_asm) (by walk_at "memt") ?_); intro h9 tk9 n9 t9 A9 B9 F9 N9))
theorem hold_own {h₀ h : Heap} {L : Addr} {a b c d e f g i j : Addr × Obj} {r : List (Addr × Obj)} (N : News h₀ L h (a :: b :: c :: d :: e :: f :: g :: i :: j :: r)) : News h₀ L h r := fun p hp => N p (by
  simp only [List.mem_cons]
  simp [hp])
theorem nine {P : Nat → Prop} (h0 : P 0) (h1 : P 1) (h2 : P 2) (h3 : P 3) (h4 : P 4) (h5 : P 5) (h6 : P 6) (h7 : P 7) (h8 : P 8) : ∀ i, i < 9 → P i
  | 0, _ => h0
  | 1, _ => h1
  | 2, _ => h2
  | 3, _ => h3
  | 4, _ => h4
  | 5, _ => h5
  | 6, _ => h6
  | 7, _ => h7
  | 8, _ => h8
  | i + 9, h => absurd h (by omega)
theorem min_ok {M1 m1 M2 m2 : Nat} {d0 d1 d2 d3 d4 d5 d6 d7 d8 z : Int} (hok1 : M1 + 2 * m1 ≤ 8) (hok2 : 8 ≤ 2 * M1 + m1) (hok3 : M2 + 2 * m2 ≤ 8) (hok4 : 8 ≤ 2 * M2 + m2)
    (hd0 : ((keptM M1 m1 0 : Nat) : Int) - (keptM M2 m2 0 : Nat) = d0) (hd1 : ((keptM M1 m1 1 : Nat) : Int) - (keptM M2 m2 1 : Nat) = d1) (hd2 : ((keptM M1 m1 2 : Nat) : Int) - (keptM M2 m2 2 : Nat) = d2) (hd3 : ((keptM M1 m1 3 : Nat) : Int) - (keptM M2 m2 3 : Nat) = d3) (hd4 : ((keptM M1 m1 4 : Nat) : Int) - (keptM M2 m2 4 : Nat) = d4) (hd5 : ((keptM M1 m1 5 : Nat) : Int) - (keptM M2 m2 5 : Nat) = d5) (hd6 : ((keptM M1 m1 6 : Nat) : Int) - (keptM M2 m2 6 : Nat) = d6) (hd7 : ((keptM M1 m1 7 : Nat) : Int) - (keptM M2 m2 7 : Nat) = d7) (hd8 : ((keptM M1 m1 8 : Nat) : Int) - (keptM M2 m2 8 : Nat) = d8)
    (hA : z = d0 ∨ z = d1 ∨ z = d2 ∨ z = d3 ∨ z = d4 ∨ z = d5 ∨ z = d6 ∨ z = d7 ∨ z = d8) (hB : z ≤ d0 ∧ z ≤ d1 ∧ z ≤ d2 ∧ z ≤ d3 ∧ z ≤ d4 ∧ z ≤ d5 ∧ z ≤ d6 ∧ z ≤ d7 ∧ z ≤ d8) : decide (0 ≤ z) = ovB M1 m1 M2 m2 := by
  have h := two_all (P := fun a b c d => ((List.range 9).all fun i => decide ((0 : Int) ≤ (keptM a b i : Nat) - (keptM c d i : Nat))) == ovB a b c d) kept_all hok1 hok2 hok3 hok4
  rw [← eq_of_beq h, Bool.eq_iff_iff, decide_eq_true_eq, List.all_eq_true]
  constructor
  · intro h0 i hi
    rw [decide_eq_true_eq]
    exact nine (P := fun i => (0 : Int) ≤ (keptM M1 m1 i : Nat) - (keptM M2 m2 i : Nat)) (hd0 ▸ Int.le_trans h0 hB.1) (hd1 ▸ Int.le_trans h0 hB.2.1) (hd2 ▸ Int.le_trans h0 hB.2.2.1) (hd3 ▸ Int.le_trans h0 hB.2.2.2.1) (hd4 ▸ Int.le_trans h0 hB.2.2.2.2.1) (hd5 ▸ Int.le_trans h0 hB.2.2.2.2.2.1) (hd6 ▸ Int.le_trans h0 hB.2.2.2.2.2.2.1) (hd7 ▸ Int.le_trans h0 hB.2.2.2.2.2.2.2.1) (hd8 ▸ Int.le_trans h0 hB.2.2.2.2.2.2.2.2) i (List.mem_range.mp hi)
  · intro hall
    have f := fun i (hi : i < 9) => of_decide_eq_true (hall i (List.mem_range.mpr hi))
    rcases hA with h | h | h | h | h | h | h | h | h
    · rw [h, ← hd0]; exact f 0 (by decide)
    · rw [h, ← hd1]; exact f 1 (by decide)
    · rw [h, ← hd2]; exact f 2 (by decide)
    · rw [h, ← hd3]; exact f 3 (by decide)
    · rw [h, ← hd4]; exact f 4 (by decide)
    · rw [h, ← hd5]; exact f 5 (by decide)
    · rw [h, ← hd6]; exact f 6 (by decide)
    · rw [h, ← hd7]; exact f 7 (by decide)
    · rw [h, ← hd8]; exact f 8 (by decide)
set_option maxHeartbeats 8000000 in
theorem holds_tail {dp un : Nat} {gd : Option (List Code)} {cn : Str} {cs : Scope} {ad : Addr} {ccd : Value} {cl : List (Str × Addr)} {outer : List Env} {base g1 : Heap} {L L1 : Addr} {s : Shared} {Qk : Flow → Shared → Prop} {Ek : Value → Shared → Prop} {mm : Str → Option Value} {h : Heap} {tk : Nat} {oc1 oc2 oc3 oc4 : Obj}
    {T1 K1 R1 T2 K2 R2 S : Addr} {M1 m1 M2 m2 c1 c2 : Nat} {x y z : Int} {a1 a2 a3 a4 a5 b1 b2 b3 b4 b5 s1 s2 s3 : Tok} {p0 p1 p2 p3 p4 p5 p6 p7 p8 q0 q1 q2 q3 q4 q5 q6 q7 q8 : Tok} {news : List (Addr × Obj)}
    (hok1 : M1 + 2 * m1 ≤ 8) (hok2 : 8 ≤ 2 * M1 + m1) (hok3 : M2 + 2 * m2 ≤ 8) (hok4 : 8 ≤ 2 * M2 + m2) (hx : 1 ≤ x ∧ x ≤ 5) (hy : 1 ≤ y ∧ y ≤ 5) (hz : 1 ≤ z ∧ z ≤ 5)
    (B1 : Below (ktrTop dp un gd cn cs L ad ccd cl outer) base (envX cn cs L ad ccd cl :: outer) g1) (X1 : (KW w.params).In g1) (TT : Top (vw pw) (looseW (vw pw) looseL) mean mg mb g1) (hd : dp + 6 < recursionLimit) (hu : un + 8 * 6 < cLine)
    (F : Fr g1 L1 h mm) (N : News g1 L1 h ((L1 + 1 + 1 + 1 + 1, oc4) :: (L1 + 1 + 1 + 1, oc3) :: (L1 + 1 + 1, oc2) :: (L1 + 1, oc1) :: (T1, kdv_tup [.ref R1, .ref K1, .float (topF M1) a1, .float (lowF M1 m1) a2]) :: (K1, lst [.int (keptM M1 m1 0 : Nat) p0, .int (keptM M1 m1 1 : Nat) p1, .int (keptM M1 m1 2 : Nat) p2, .int (keptM M1 m1 3 : Nat) p3, .int (keptM M1 m1 4 : Nat) p4, .int (keptM M1 m1 5 : Nat) p5, .int (keptM M1 m1 6 : Nat) p6, .int (keptM M1 m1 7 : Nat) p7, .int (keptM M1 m1 8 : Nat) p8]) :: (R1, W.listOf #[.int (M1 : Nat) a3, .int (8 - M1 - m1 : Nat) a4, .int (m1 : Nat) a5] c1) :: (T2, kdv_tup [.ref R2, .ref K2, .float (topF M2) b1, .float (lowF M2 m2) b2]) :: (K2, lst [.int (keptM M2 m2 0 : Nat) q0, .int (keptM M2 m2 1 : Nat) q1, .int (keptM M2 m2 2 : Nat) q2, .int (keptM M2 m2 3 : Nat) q3, .int (keptM M2 m2 4 : Nat) q4, .int (keptM M2 m2 5 : Nat) q5, .int (keptM M2 m2 6 : Nat) q6, .int (keptM M2 m2 7 : Nat) q7, .int (keptM M2 m2 8 : Nat) q8]) :: (R2, W.listOf #[.int (M2 : Nat) b3, .int (8 - M2 - m2 : Nat) b4, .int (m2 : Nat) b5] c2) :: (S, kdv_tup [.int x s1, .int y s2, .int z s3]) :: news))
    (dc1 : oc1.data = .cell (some (.ref R1))) (dc2 : oc2.data = .cell (some (.ref K1))) (dc3 : oc3.data = .cell (some (.ref R2))) (dc4 : oc4.data = .cell (some (.ref K2)))
    (l1 : mm (Str.ofString "over") = some (.bool (ovB M1 m1 M2 m2))) (l2 : mm (Str.ofString "top") = some (.float (topF M1) a1)) (l3 : mm (Str.ofString "low") = some (.float (lowF M1 m1) a2)) (l4 : mm (Str.ofString "peak") = some (.float (topF M2) b1)) (l5 : mm (Str.ofString "base") = some (.float (lowF M2 m2) b2)) (l6 : mm (Str.ofString "spot") = some (.ref S))
    (hQ : ∀ h' tk' m', Fr g1 L1 h' m' → News g1 L1 h' ((T1, kdv_tup [.ref R1, .ref K1, .float (topF M1) a1, .float (lowF M1 m1) a2]) :: (K1, lst [.int (keptM M1 m1 0 : Nat) p0, .int (keptM M1 m1 1 : Nat) p1, .int (keptM M1 m1 2 : Nat) p2, .int (keptM M1 m1 3 : Nat) p3, .int (keptM M1 m1 4 : Nat) p4, .int (keptM M1 m1 5 : Nat) p5, .int (keptM M1 m1 6 : Nat) p6, .int (keptM M1 m1 7 : Nat) p7, .int (keptM M1 m1 8 : Nat) p8]) :: (R1, W.listOf #[.int (M1 : Nat) a3, .int (8 - M1 - m1 : Nat) a4, .int (m1 : Nat) a5] c1) :: (T2, kdv_tup [.ref R2, .ref K2, .float (topF M2) b1, .float (lowF M2 m2) b2]) :: (K2, lst [.int (keptM M2 m2 0 : Nat) q0, .int (keptM M2 m2 1 : Nat) q1, .int (keptM M2 m2 2 : Nat) q2, .int (keptM M2 m2 3 : Nat) q3, .int (keptM M2 m2 4 : Nat) q4, .int (keptM M2 m2 5 : Nat) q5, .int (keptM M2 m2 6 : Nat) q6, .int (keptM M2 m2 7 : Nat) q7, .int (keptM M2 m2 8 : Nat) q8]) :: (R2, W.listOf #[.int (M2 : Nat) b3, .int (8 - M2 - m2 : Nat) b4, .int (m2 : Nat) b5] c2) :: (S, kdv_tup [.int x s1, .int y s2, .int z s3]) :: news) → Qk (.ret (.bool true)) { s with heap := h', toks := tk' }) :
    wpAny (model pw w) ((ktrTop dp un gd cn cs L ad ccd cl outer).deeper (envOfC (Str.ofString "_law_holds") C20 L1 157 (Value.ref 156))) (execs (List.drop 3 B20) (envOfC (Str.ofString "_law_holds") C20 L1 157 (Value.ref 156))) Qk Ek { s with heap := h, toks := tk } := by
  generalize kdv_tup [.ref R1, .ref K1, .float (topF M1) a1, .float (lowF M1 m1) a2] = oT1 at N hQ
  generalize kdv_tup [.ref R2, .ref K2, .float (topF M2) b1, .float (lowF M2 m2) b2] = oT2 at N hQ
  generalize hk10 : keptM M1 m1 0 = k10 at N hQ
  generalize hk11 : keptM M1 m1 1 = k11 at N hQ
  generalize hk12 : keptM M1 m1 2 = k12 at N hQ
  generalize hk13 : keptM M1 m1 3 = k13 at N hQ
  generalize hk14 : keptM M1 m1 4 = k14 at N hQ
  generalize hk15 : keptM M1 m1 5 = k15 at N hQ
  generalize hk16 : keptM M1 m1 6 = k16 at N hQ
  generalize hk17 : keptM M1 m1 7 = k17 at N hQ
  generalize hk18 : keptM M1 m1 8 = k18 at N hQ
  generalize hk20 : keptM M2 m2 0 = k20 at N hQ
  generalize hk21 : keptM M2 m2 1 = k21 at N hQ
  generalize hk22 : keptM M2 m2 2 = k22 at N hQ
  generalize hk23 : keptM M2 m2 3 = k23 at N hQ
  generalize hk24 : keptM M2 m2 4 = k24 at N hQ
  generalize hk25 : keptM M2 m2 5 = k25 at N hQ
  generalize hk26 : keptM M2 m2 6 = k26 at N hQ
  generalize hk27 : keptM M2 m2 7 = k27 at N hQ
  generalize hk28 : keptM M2 m2 8 = k28 at N hQ
  revert oT1 oT2 k10 hk10 k11 hk11 k12 hk12 k13 hk13 k14 hk14 k15 hk15 k16 hk16 k17 hk17 k18 hk18 k20 hk20 k21 hk21 k22 hk22 k23 hk23 k24 hk24 k25 hk25 k26 hk26 k27 hk27 k28 hk28 N hQ
  refine id ?_
  intro oT1 oT2 k10 hk10 k11 hk11 k12 hk12 k13 hk13 k14 hk14 k15 hk15 k16 hk16 k17 hk17 k18 hk18 k20 hk20 k21 hk21 k22 hk22 k23 hk23 k24 hk24 k25 hk25 k26 hk26 k27 hk27 k28 hk28 N hQ
  delta B20 whB
  change wpAny _ _ (execs [_, _, _, _, _] _) _ _ _
  try dsimp only
  walk_at "to src"
  k_dflt (refine LCg.CompSrc.range (by rfl) (by k_asm) (by k_asm) (by assumption) (by first | decide | rfl) (by first | rfl | decide) (by first | size_fits | exact Nat.le_of_ble_eq_true rfl) ?_)
  intro g5
  refine rest_G (List.range 9) (by rfl) (fun i v => ∃ t, v = .int (0 + (i : Int)) t) (fun i v => ∃ t, v = .int ((keptM M1 m1 i : Nat) - (keptM M2 m2 i : Nat)) t) hP_range trivial ?_ ?_
  · intro k hk v I oI C oC D m₂ ys h tk E' hV hC hx F2 N2 off ne
    obtain ⟨t9, rfl⟩ := hV
    rw [Int.zero_add] at hx
    rw [List.mem_range] at hk
    k_steps
    exact .mk ⟨_, congrArg (fun z => Value.int z _) (by rw [← hk10, ← hk11, ← hk12, ← hk13, ← hk14, ← hk15, ← hk16, ← hk17, ← hk18, ← hk20, ← hk21, ← hk22, ← hk23, ← hk24, ← hk25, ← hk26, ← hk27, ← hk28]; exact kept_get hk)⟩
  · intro ys hys
    refine Classical.byContradiction fun hG9 => ?_
    obtain ⟨u0, u1, u2, u3, u4, u5, u6, u7, u8, rfl⟩ := all2_e9 (a := 0) (b := 1) (c := 2) (d := 3) (e := 4) (f := 5) (g := 6) (h := 7) (i := 8) hys
    refine hG9 ?_
    clear hG9
    clear hys
    generalize hd0 : ((keptM M1 m1 0 : Nat) : Int) - (keptM M2 m2 0 : Nat) = d0
    generalize hd1 : ((keptM M1 m1 1 : Nat) : Int) - (keptM M2 m2 1 : Nat) = d1
    generalize hd2 : ((keptM M1 m1 2 : Nat) : Int) - (keptM M2 m2 2 : Nat) = d2
    generalize hd3 : ((keptM M1 m1 3 : Nat) : Int) - (keptM M2 m2 3 : Nat) = d3
    generalize hd4 : ((keptM M1 m1 4 : Nat) : Int) - (keptM M2 m2 4 : Nat) = d4
    generalize hd5 : ((keptM M1 m1 5 : Nat) : Int) - (keptM M2 m2 5 : Nat) = d5
    generalize hd6 : ((keptM M1 m1 6 : Nat) : Int) - (keptM M2 m2 6 : Nat) = d6
    generalize hd7 : ((keptM M1 m1 7 : Nat) : Int) - (keptM M2 m2 7 : Nat) = d7
    generalize hd8 : ((keptM M1 m1 8 : Nat) : Int) - (keptM M2 m2 8 : Nat) = d8
    generalize lst [.int (k10 : Nat) p0, .int (k11 : Nat) p1, .int (k12 : Nat) p2, .int (k13 : Nat) p3, .int (k14 : Nat) p4, .int (k15 : Nat) p5, .int (k16 : Nat) p6, .int (k17 : Nat) p7, .int (k18 : Nat) p8] = oK1 at hQ ⊢
    generalize lst [.int (k20 : Nat) q0, .int (k21 : Nat) q1, .int (k22 : Nat) q2, .int (k23 : Nat) q3, .int (k24 : Nat) q4, .int (k25 : Nat) q5, .int (k26 : Nat) q6, .int (k27 : Nat) q7, .int (k28 : Nat) q8] = oK2 at hQ ⊢
    revert d0 hd0 d1 hd1 d2 hd2 d3 hd3 d4 hd4 d5 hd5 d6 hd6 d7 hd7 d8 hd8 oK1 oK2 hQ
    refine id ?_
    intro d0 hd0 d1 hd1 d2 hd2 d3 hd3 d4 hd4 d5 hd5 d6 hd6 d7 hd7 d8 hd8 oK1 oK2 hQ
    walk_at "to ready"
    · exfalso
      rename (ovB _ _ _ _ != _) = true => hzz
      rename (_ = d0) ∨ _ => hA
      rename (_ ≤ d0) ∧ _ => hB
      rw [min_ok hok1 hok2 hok3 hok4 hd0 hd1 hd2 hd3 hd4 hd5 hd6 hd7 hd8 hA hB] at hzz
      simp at hzz
    refine Ready.tup (by rfl) (by k_asm) (by k_asm) ⟨_, by walk_at "memt", rfl, _, rfl⟩ (by show 3 ≤ _; rw [PySem.sizeLine_eq]; omega) (by decide) (by rfl) (by rfl) ?_
    intro g6
    refine CompRest.succ ?_
    intro v I oI C oC D m₂ h tk E' hv hC hx' F6 N6 off ne
    lcg_open hv
    try dsimp only
    k_steps
    refine LCg.CompEnd.intro (by k_asm) (by k_asm) _ (fun p hp => hp) (by exact off) ⟨_, by walk_at "memt", rfl, _, rfl⟩ ?_
    refine CompRest.succ ?_
    intro v I oI C oC D m₂ h tk E' hv hC hx' F6 N6 off ne
    lcg_open hv
    try dsimp only
    k_steps
    refine LCg.CompEnd.intro (by k_asm) (by k_asm) _ (fun p hp => hp) (by exact off) ⟨_, by walk_at "memt", rfl, _, rfl⟩ ?_
    refine CompRest.succ ?_
    intro v I oI C oC D m₂ h tk E' hv hC hx' F6 N6 off ne
    lcg_open hv
    try dsimp only
    k_steps
    refine LCg.CompEnd.intro (by k_asm) (by k_asm) _ (fun p hp => hp) (by exact off) ⟨_, by walk_at "memt", rfl, _, rfl⟩ ?_
    refine CompRest.zero ?_
    change FinA _ _ _ _ _ _ [Value.int (gapI M1 m1 M2 m2 1 1 3) _, Value.int (gapI M1 m1 M2 m2 1 3 3) _, Value.int (gapI M1 m1 M2 m2 x y z) _] _
    have e01 := eq_of_beq (two_all (P := fun a b c d => (decide (0 ≤ gapI a b c d 1 1 3) && decide (0 ≤ gapI a b c d 1 3 3)) == ovB a b c d) gap_all hok1 hok2 hok3 hok4)
    have ean := eq_of_beq (two_all (P := fun a b c d => ansM 9 [rowR a b] (rowR c d) 0 == (if ovB a b c d then max ((a : Int) - (c : Int)) ((d : Int) - (b : Int)) else -1)) moves_all hok1 hok2 hok3 hok4)
    generalize hg0 : gapI M1 m1 M2 m2 1 1 3 = g0 at e01 ⊢
    generalize hg1 : gapI M1 m1 M2 m2 1 3 3 = g1' at e01 ⊢
    generalize hg2 : gapI M1 m1 M2 m2 x y z = g2
    generalize han : ansM 9 [rowR M1 m1] (rowR M2 m2) 0 = an at ean
    cases hov : ovB M1 m1 M2 m2 with
    | true =>
      have hsp := spot_ok (x := x) (y := y) (z := z) hok1 hok2 hok3 hok4 hx hy hz hov
      rw [hg2] at hsp
      rw [hov] at l1 e01 ean
      have h0 : 0 ≤ g0 := of_decide_eq_true (Bool.and_eq_true _ _ ▸ e01 : _ ∧ _).1
      have h1 : 0 ≤ g1' := of_decide_eq_true (Bool.and_eq_true _ _ ▸ e01 : _ ∧ _).2
      clear e01
      have k0 : 0 ≤ [g0, g1', g2].getD (Int.toNat 0) 0 := h0
      have k1 : 0 ≤ [g0, g1', g2].getD (Int.toNat 1) 0 := h1
      have k2 : 0 ≤ [g0, g1', g2].getD (Int.toNat 2) 0 := hsp.1
      have hmx := two_all (P := fun a b c d => !(ovB a b c d) || (Float64.cmpInt (mxF a b c d) (max ((a : Int) - (c : Int)) ((d : Int) - (b : Int))) == some .eq)) mx_all hok1 hok2 hok3 hok4
      rw [hov, Bool.not_true, Bool.false_or] at hmx
      have ean' : an = max ((M1 : Int) - (M2 : Int)) ((m2 : Int) - (m1 : Int)) := ean
      rw [← ean'] at hmx
      clear ean
      repeat' ((fail_if_success (with_reducible show wpAny _ _ (call (Value.builtin "max") _) _ _ _)); first | (k_unfold; (try dsimp only)) | (k_end; wrow_close) | walk1 | (dsimp only; walk1) | (leave1; try dsimp only))
      · exfalso
        rename (true != _) = true => hzz
        rw [decide_eq_true k1] at hzz
        cases hzz
      rename Fr g1 L1 _ _ => F8
      rename News g1 L1 _ _ => N8
      refine max_two_ff rfl F8 N8 ?_
      intro h8 tk8 v8 F8' N8'
      clear F8 N8
      change qk (.float (mxF M1 m1 M2 m2) v8) _
      generalize mxF M1 m1 M2 m2 = mx at hmx ⊢
      rename _ = ansM _ _ _ _ => hn
      rw [han] at hn
      rw [← hn] at hmx
      have hne := bne_no hmx
      clear hmx ean' han
      dsimp only
      k_steps
      · rename M1 = M2 ∧ _ => heq
        have ev : (([g0, g1', g2].getD (Int.toNat 2) 0 == 0) == decide (M1 = M2 ∧ 8 - M1 - m1 = 8 - M2 - m2 ∧ m1 = m2)) = true := by
          rw [decide_eq_true heq]
          show ((g2 == 0) == true) = true
          rw [beq_iff_eq, beq_iff_eq]
          exact hsp.2.mpr (.inl ⟨heq.1, heq.2.2⟩)
        rw [ev]
        rename News g1 L1 _ _ => N8
        exact hQ _ _ _ (by k_asm) (hold_own N8)
      · rename ¬(M1 = M2 ∧ _) => heq
        rename (_ = x ∨ _) => hA
        rename (_ = x ∨ _) => hA2
        rename (_ ≤ x ∧ _) => hB
        rename (x ≤ _ ∧ _) => hD
        rename News g1 L1 _ _ => N8
        refine (congrArg (fun b => Qk (Flow.ret (Value.bool b)) _) ?_).mpr (hQ _ _ _ (by k_asm) (hold_own N8))
        show ((g2 == 0) == (_ == _)) = true
        rw [beq_iff_eq, Bool.eq_iff_iff, beq_iff_eq, beq_iff_eq, hsp.2]
        constructor
        · rintro (h | h)
          · exact absurd ⟨h.1, by omega, h.2⟩ heq
          · omega
        · intro h
          right
          omega
    | false =>
      rw [hov] at l1 e01 ean
      have h01 : ¬ (0 ≤ g0 ∧ 0 ≤ g1') := by
        rintro ⟨a, b⟩
        rw [decide_eq_true a, decide_eq_true b] at e01
        cases e01
      have ean' : an = -1 := ean
      clear e01 ean
      k_steps
      · exfalso
        rename 0 ≤ List.getD _ (Int.toNat 0) _ => hz0
        rename (false != _) = true => hzz
        have hz1 : ¬ 0 ≤ [g0, g1', g2].getD (Int.toNat 1) 0 := fun q => h01 ⟨hz0, q⟩
        rw [decide_eq_false hz1] at hzz
        cases hzz
      · exfalso
        rename _ = ansM _ _ _ _ => hn
        rename _ ≠ (-1 : Int) => hz1
        exact hz1 (by rw [hn, han, ean'])
      · rename News g1 L1 _ _ => N8
        exact hQ _ _ _ (by k_asm) (hold_own N8)
      · exfalso
        rename ¬ 0 ≤ List.getD _ (Int.toNat 0) _ => hz0
        rename (false != _) = true => hzz
        rw [decide_eq_false hz0] at hzz
        cases hzz
      · exfalso
        rename _ = ansM _ _ _ _ => hn
        rename _ ≠ (-1 : Int) => hz1
        exact hz1 (by rw [hn, han, ean'])
      · rename News g1 L1 _ _ => N8
        exact hQ _ _ _ (by k_asm) (hold_own N8)
end
section
open PySem PySem.W PySem.Calls PyProof.Rows PySem.Spec
set_option compiler.extract_closed false
variable {w : World} {mean : ExcName → Option Value} {mg mb : Str → Option Value}
open PyProof.Rows.LCg PyProof.Rows.LCt PySem.Flt
set_option maxHeartbeats 8000000 in
theorem c_holds (T1 K1 R1 T2 K2 R2 S : Addr) (M1 m1 M2 m2 c1 c2 : Nat) (x y z : Int) (a1 a2 a3 a4 a5 b1 b2 b3 b4 b5 s1 s2 s3 : Tok) (p0 p1 p2 p3 p4 p5 p6 p7 p8 q0 q1 q2 q3 q4 q5 q6 q7 q8 : Tok) (news : List (Addr × Obj)) :
    ClaimR 6 w mean mg mb 157 ((T1, kdv_tup [.ref R1, .ref K1, .float (topF M1) a1, .float (lowF M1 m1) a2]) :: (K1, lst [.int (keptM M1 m1 0 : Nat) p0, .int (keptM M1 m1 1 : Nat) p1, .int (keptM M1 m1 2 : Nat) p2, .int (keptM M1 m1 3 : Nat) p3, .int (keptM M1 m1 4 : Nat) p4, .int (keptM M1 m1 5 : Nat) p5, .int (keptM M1 m1 6 : Nat) p6, .int (keptM M1 m1 7 : Nat) p7, .int (keptM M1 m1 8 : Nat) p8]) :: (R1, W.listOf #[.int (M1 : Nat) a3, .int (8 - M1 - m1 : Nat) a4, .int (m1 : Nat) a5] c1) ::
      (T2, kdv_tup [.ref R2, .ref K2, .float (topF M2) b1, .float (lowF M2 m2) b2]) :: (K2, lst [.int (keptM M2 m2 0 : Nat) q0, .int (keptM M2 m2 1 : Nat) q1, .int (keptM M2 m2 2 : Nat) q2, .int (keptM M2 m2 3 : Nat) q3, .int (keptM M2 m2 4 : Nat) q4, .int (keptM M2 m2 5 : Nat) q5, .int (keptM M2 m2 6 : Nat) q6, .int (keptM M2 m2 7 : Nat) q7, .int (keptM M2 m2 8 : Nat) q8]) :: (R2, W.listOf #[.int (M2 : Nat) b3, .int (8 - M2 - m2 : Nat) b4, .int (m2 : Nat) b5] c2) :: (S, kdv_tup [.int x s1, .int y s2, .int z s3]) :: news)
      ((M1 + 2 * m1 ≤ 8 ∧ 8 ≤ 2 * M1 + m1) ∧ (M2 + 2 * m2 ≤ 8 ∧ 8 ≤ 2 * M2 + m2) ∧ (1 ≤ x ∧ x ≤ 5) ∧ (1 ≤ y ∧ y ≤ 5) ∧ (1 ≤ z ∧ z ≤ 5)) [.ref T1, .ref T2, .ref S]
      (fun v led => v = .bool true ∧ led = (T1, kdv_tup [.ref R1, .ref K1, .float (topF M1) a1, .float (lowF M1 m1) a2]) :: (K1, lst [.int (keptM M1 m1 0 : Nat) p0, .int (keptM M1 m1 1 : Nat) p1, .int (keptM M1 m1 2 : Nat) p2, .int (keptM M1 m1 3 : Nat) p3, .int (keptM M1 m1 4 : Nat) p4, .int (keptM M1 m1 5 : Nat) p5, .int (keptM M1 m1 6 : Nat) p6, .int (keptM M1 m1 7 : Nat) p7, .int (keptM M1 m1 8 : Nat) p8]) :: (R1, W.listOf #[.int (M1 : Nat) a3, .int (8 - M1 - m1 : Nat) a4, .int (m1 : Nat) a5] c1) ::
      (T2, kdv_tup [.ref R2, .ref K2, .float (topF M2) b1, .float (lowF M2 m2) b2]) :: (K2, lst [.int (keptM M2 m2 0 : Nat) q0, .int (keptM M2 m2 1 : Nat) q1, .int (keptM M2 m2 2 : Nat) q2, .int (keptM M2 m2 3 : Nat) q3, .int (keptM M2 m2 4 : Nat) q4, .int (keptM M2 m2 5 : Nat) q5, .int (keptM M2 m2 6 : Nat) q6, .int (keptM M2 m2 7 : Nat) q7, .int (keptM M2 m2 8 : Nat) q8]) :: (R2, W.listOf #[.int (M2 : Nat) b3, .int (8 - M2 - m2 : Nat) b4, .int (m2 : Nat) b5] c2) :: (S, kdv_tup [.int x s1, .int y s2, .int z s3]) :: news) := by
  intro dp un gd cn cs ad ccd cl outer A₀ base h₀ L m s Q E B F X N T hk hpre hd hu hret
  refine wpAny_call ?_
  k_dflt (walk_at "enter cells")
  intro g1 L1 hp1 tk1 cells1 FG1 F1 N1 Y1 B1 X1 TT l1
  have hnews : ∀ p ∈ news, p.1 < L1 := fun p hp => l1 p (by walk_at "memt")
  have lT1 : @LT.lt Nat _ T1 L1 := l1 (T1, _) (by walk_at "memt")
  have lK1 : @LT.lt Nat _ K1 L1 := l1 (K1, _) (by walk_at "memt")
  have lR1 : @LT.lt Nat _ R1 L1 := l1 (R1, _) (by walk_at "memt")
  have lT2 : @LT.lt Nat _ T2 L1 := l1 (T2, _) (by walk_at "memt")
  have lK2 : @LT.lt Nat _ K2 L1 := l1 (K2, _) (by walk_at "memt")
  have lR2 : @LT.lt Nat _ R2 L1 := l1 (R2, _) (by walk_at "memt")
  have lS : @LT.lt Nat _ S L1 := l1 (S, _) (by walk_at "memt")
  have e1 : ∀ p ∈ news, p.1 ≠ L1 + 1 := fun p hp => Nat.ne_of_lt (Nat.lt_succ_of_lt (hnews p hp))
  have e2 : ∀ p ∈ news, p.1 ≠ L1 + 1 + 1 := fun p hp => Nat.ne_of_lt (Nat.lt_succ_of_lt (Nat.lt_succ_of_lt (hnews p hp)))
  have e3 : ∀ p ∈ news, p.1 ≠ L1 + 1 + 1 + 1 := fun p hp => Nat.ne_of_lt (Nat.lt_succ_of_lt (Nat.lt_succ_of_lt (Nat.lt_succ_of_lt (hnews p hp))))
  have e4 : ∀ p ∈ news, p.1 ≠ L1 + 1 + 1 + 1 + 1 := fun p hp => Nat.ne_of_lt (Nat.lt_succ_of_lt (Nat.lt_succ_of_lt (Nat.lt_succ_of_lt (Nat.lt_succ_of_lt (hnews p hp)))))
  clear l1
  k_cells Y1
  try simp only [List.cons_append, List.nil_append] at N1
  try dsimp only
  k_unmd
  k_fold
  refine Classical.byContradiction fun hG9 => ?_
  obtain ⟨⟨ok1, ok2⟩, ⟨ok3, ok4⟩, hx, hy, hz⟩ := hpre
  refine hG9 ?_
  clear hG9
  have hTt := eq_of_beq (two_all (P := fun a b c d => (Float64.cmp (topF a) (topF c) == some .gt || Float64.cmp (topF a) (topF c) == some .eq) == decide (c ≤ a)) top_all ok1 ok2 ok3 ok4)
  have hLt := eq_of_beq (two_all (P := fun a b c d => (Float64.cmp (lowF a b) (lowF c d) == some .lt || Float64.cmp (lowF a b) (lowF c d) == some .eq) == decide (b ≤ d)) low_all ok1 ok2 ok3 ok4)
  repeat' ((fail_if_success (with_reducible show wpAny _ _ (execs (PySem.Stmt.If _ _ _ _ :: _) _) _ _ _)); first | (k_unfold; (try dsimp only)) | (k_end; wrow_close) | walk1 | (dsimp only; walk1) | (leave1; try dsimp only))
  · rename Fr g1 L1 _ _ => F2
    rename News g1 L1 _ _ => N2
    rename (Float64.cmp (topF M1) _ == _ || _) = true => hT
    rw [hTt] at hT
    refine holds_tail (mm := _) (news := news) ok1 ok2 ok3 ok4 hx hy hz B1 X1 TT hd hu F2 N2 (by assumption) (by assumption) (by assumption) (by assumption) (by unfold ovB; rw [hT, Bool.true_and, ← hLt]; with_unfolding_all rfl) (by with_unfolding_all rfl) (by with_unfolding_all rfl) (by with_unfolding_all rfl) (by with_unfolding_all rfl) (by with_unfolding_all rfl) ?_
    intro h' tk' m' F' N'
    k_steps
    exact hret _ _ _ _ ⟨rfl, rfl⟩ (by k_asm) (by k_asm)
  · rename Fr g1 L1 _ _ => F2
    rename News g1 L1 _ _ => N2
    rename (Float64.cmp (topF M1) _ == _ || _) = false => hT
    rw [hTt] at hT
    refine holds_tail (mm := _) (news := news) ok1 ok2 ok3 ok4 hx hy hz B1 X1 TT hd hu F2 N2 (by assumption) (by assumption) (by assumption) (by assumption) (by unfold ovB; rw [hT, Bool.false_and, ← hT, ← hTt]; with_unfolding_all rfl) (by with_unfolding_all rfl) (by with_unfolding_all rfl) (by with_unfolding_all rfl) (by with_unfolding_all rfl) (by with_unfolding_all rfl) ?_
    intro h' tk' m' F' N'
    k_steps
    exact hret _ _ _ _ ⟨rfl, rfl⟩ (by k_asm) (by k_asm)
end
section
open PySem PySem.W PySem.Calls PyProof.Rows PySem.Spec
set_option compiler.extract_closed false
variable {w : World} {mean : ExcName → Option Value} {mg mb : Str → Option Value}
open PyProof.Rows.LCg PyProof.Rows.LCt PySem.Flt
noncomputable def drawI (ns : List Int) (ds : List Int) (i : Nat) : Int := if i < ns.length then ns.getD i 0 % 1000000 else ds.getD i 0
noncomputable abbrev dues : List Int := [127, 89, 175, 298, 51, 224, 106, 252, 51]
theorem draws_own {h₀ h : Heap} {L : Addr} {a b c : Addr × Obj} {r : List (Addr × Obj)} (N : News h₀ L h (a :: b :: c :: r)) : News h₀ L h (a :: r) := fun p hp => N p (by
  rcases List.mem_cons.mp hp with h9 | h9
  · rw [h9]; exact List.mem_cons_self
  · exact List.mem_cons_of_mem _ (List.mem_cons_of_mem _ (List.mem_cons_of_mem _ h9)))
theorem draw_in {ns : List Int} {k : Nat} (h : k < ns.length) : (ns.getD ((k : Int)).toNat 0).fmod (10 ^ Int.toNat 6) = drawI ns dues k := by
  unfold drawI
  rw [if_pos h, Int.toNat_natCast]
  exact Int.fmod_eq_emod_of_nonneg _ (by decide)
theorem draw_out {ns : List Int} {k : Nat} (h : ¬ k < ns.length) : dues.getD ((k : Int)).toNat 0 = drawI ns dues k := by
  unfold drawI
  rw [if_neg h, Int.toNat_natCast]
set_option maxHeartbeats 8000000 in
theorem c_draws {dp un : Nat} {gd : Option (List Code)} {cn : Str} {cs : Scope} {a : Addr} {ccd : Value} {cl : List (Str × Addr)} {outer : List Env} {A₀ : Around} {base h₀ : Heap} {L : Addr} {m : Str → Option Value} {s : Shared} {Q E : Value → Shared → Prop}
    {l D : Addr} {vs : List Value} {ns : List Int} {t0 t1 t2 t3 t4 t5 t6 t7 t8 : Tok} {news : List (Addr × Obj)}
    (B : Below A₀ base outer h₀) (F : Fr h₀ L s.heap m) (X : (KW w.params).In h₀) (N : News h₀ L s.heap ((D, kdv_tup [.int 127 t0, .int 89 t1, .int 175 t2, .int 298 t3, .int 51 t4, .int 224 t5, .int 106 t6, .int 252 t7, .int 51 t8]) :: news)) (T : Top (vw pw) (looseW (vw pw) looseL) mean mg mb h₀) (hk : cs.kind = .function)
    (hl : base.IsList l vs.toArray) (hi : IntsAre vs ns) (hlen : ns.length ≤ 63) (hd : dp + 2 < recursionLimit) (hu : un + 8 * 2 < cLine)
    (hQ : ∀ R ys h' tk', All2 (fun i v => ∃ t, v = .int (drawI ns dues i) t) (List.range 9) ys → Fr h₀ L h' m → News h₀ L h' ((R, lst ys) :: (D, kdv_tup [.int 127 t0, .int 89 t1, .int 175 t2, .int 298 t3, .int 51 t4, .int 224 t5, .int 106 t6, .int 252 t7, .int 51 t8]) :: news) → Q (.ref R) { s with heap := h', toks := tk' }) :
    wpAny (model pw w) (ktrTop dp un gd cn cs L a ccd cl outer) (call (.ref 111) [.ref l, .ref D]) Q E s := by
  refine wpAny_call ?_
  k_dflt (walk_at "enter cells")
  intro g1 L1 hp1 tk1 cells1 FG1 F1 N1 Y1 B1 X1 T1 l1
  have hD1 : @LT.lt Nat _ D L1 := l1 (D, _) List.mem_cons_self
  have c1 : ∀ p ∈ news, p.1 ≠ L1 + 1 := fun p hp => Nat.ne_of_lt (Nat.lt_succ_of_lt (l1 p (List.mem_cons_of_mem _ hp)))
  have c2 : ∀ p ∈ news, p.1 ≠ L1 + 1 + 1 := fun p hp => Nat.ne_of_lt (Nat.lt_succ_of_lt (Nat.lt_succ_of_lt (l1 p (List.mem_cons_of_mem _ hp))))
  k_lift B1
  k_cells Y1
  try simp only [List.cons_append, List.nil_append] at N1
  try dsimp only
  k_unmd
  k_fold
  walk_at "to src"
  k_dflt (refine LCg.CompSrc.range (by rfl) (by k_asm) (by k_asm) (by assumption) (by first | decide | rfl) (by first | rfl | decide) (by first | size_fits | exact Nat.le_of_ble_eq_true rfl) ?_)
  intro g5
  refine rest_G (List.range 9) (by rfl) (fun i v => ∃ t, v = .int (0 + (i : Int)) t) (fun i v => ∃ t, v = .int (drawI ns dues i) t) hP_range trivial ?_ ?_
  · intro k hk v I oI C oC D m₂ ys h tk E' hV hC hx F2 N2 off ne
    obtain ⟨t9, rfl⟩ := hV
    rw [Int.zero_add] at hx
    rw [List.mem_range] at hk
    try dsimp only
    k_steps
    · rename (_ : Int) < _ => hlt
      exact .mk ⟨_, congrArg (fun z => Value.int z _) (draw_in (by omega))⟩
    · rename ¬ (_ : Int) < _ => hlt
      exact .mk ⟨_, congrArg (fun z => Value.int z _) (draw_out (by omega))⟩
  · intro ys hys
    k_steps
    rename News h₀ L _ _ => N9
    exact hQ _ _ _ _ hys (by k_asm) (draws_own N9)
end
local macro_rules | `(tactic| walk_at "eval ListComp") => `(tactic| ((with_reducible show wpAny _ _ (eval (PySem.Expr.ListComp _ [Comprehension.mk _ _ [] _, Comprehension.mk _ _ [] _] _ _) _) _ _ _); k_here; k_dflt (refine door_E (by k_asm) ⟨by with_unfolding_all rfl, by rfl, by decide⟩ (fun _ => by rfl) ?_)))
section
open PySem PySem.W PySem.Calls PyProof.Rows PySem.Spec
set_option compiler.extract_closed false
variable {w : World} {mean : ExcName → Option Value} {mg mb : Str → Option Value}
open PyProof.Rows.LCg PyProof.Rows.LCt PySem.Flt
theorem ints8 {a b c d e f g h : Int} {vs : List Value} (H : IntsAre vs [a, b, c, d, e, f, g, h]) : ∃ u0 u1 u2 u3 u4 u5 u6 u7, vs = [.int a u0, .int b u1, .int c u2, .int d u3, .int e u4, .int f u5, .int g u6, .int h u7] := by
  refine Classical.byContradiction fun hG => ?_
  obtain ⟨u0, z0, e0, k0⟩ := H.cons_inv
  obtain ⟨u1, z1, e1, k1⟩ := k0.cons_inv
  obtain ⟨u2, z2, e2, k2⟩ := k1.cons_inv
  obtain ⟨u3, z3, e3, k3⟩ := k2.cons_inv
  obtain ⟨u4, z4, e4, k4⟩ := k3.cons_inv
  obtain ⟨u5, z5, e5, k5⟩ := k4.cons_inv
  obtain ⟨u6, z6, e6, k6⟩ := k5.cons_inv
  obtain ⟨u7, z7, e7, k7⟩ := k6.cons_inv
  exact hG ⟨u0, u1, u2, u3, u4, u5, u6, u7, by rw [e0, e1, e2, e3, e4, e5, e6, e7, k7.nil_inv]⟩
set_option maxHeartbeats 8000000 in
theorem c_figures (l : Addr) (n0 n1 n2 n3 : Int) (t0 t1 t2 t3 : Tok) (c : Nat) (news : List (Addr × Obj)) : ClaimR 1 w mean mg mb 116 ((l, W.listOf #[.int n0 t0, .int n1 t1, .int n2 t2, .int n3 t3] c) :: news) (0 ≤ n0 ∧ 0 ≤ n1 ∧ 0 ≤ n2 ∧ 0 ≤ n3) [.ref l]
    (fun v led => ∃ R u0 u1 u2 u3 u4 u5 u6 u7, v = .ref R ∧ led = (R, lst [.int (n0 % 18) u0, .int (n0 / 18 % 18) u1, .int (n1 % 18) u2, .int (n1 / 18 % 18) u3, .int (n2 % 18) u4, .int (n2 / 18 % 18) u5, .int (n3 % 18) u6, .int (n3 / 18 % 18) u7]) :: (l, W.listOf #[.int n0 t0, .int n1 t1, .int n2 t2, .int n3 t3] c) :: news) := by
  intro dp un gd cn cs ad ccd cl outer A₀ base h₀ L m s Q E B F X N T hk hpre hd hu hret
  refine wpAny_call ?_
  k_dflt cell_enter
  rename_i g1 L1 hp1 FG1 F1 N1 B1 X1 T1
  walk_at "to ready"
  refine Ready.clauses (ns := [n0, n1, n2, n3]) (fun n => n % 18) (fun n => n / 18 % 18) (fun n => 0 ≤ n) (by rfl) (by k_asm) (by k_asm) ⟨_, List.mem_cons_self, rfl, _, rfl⟩ (by repeat constructor) (by show 4 ≤ 1000; decide) (by simpa using hpre) (by decide) (by rfl) (by rfl) (by rfl) (by decide) (fun _ _ => by rfl) ?_ ?_
  · intro g5 n t I oI C oC D oD m₂ h tk E' hn hC hx F2 N2
    try dsimp only
    k_steps
    rename (_ < _) ∧ (_ < _) ∧ _ => hlt
    refine TupEnd.intro (by k_asm) (by k_asm) ?_ (Int.fmod_eq_emod_of_nonneg _ (by decide)) ?_
    · exact hlt
    · rw [Int.fdiv_eq_ediv_of_nonneg _ (by decide)]
      exact Int.fmod_eq_emod_of_nonneg _ (by decide)
  · intro g5 ys hys
    refine Classical.byContradiction fun hG9 => ?_
    obtain ⟨u0, u1, u2, u3, u4, u5, u6, u7, rfl⟩ := ints8 hys
    refine hG9 ?_
    clear hG9
    k_steps
    exact hret _ _ _ _ ⟨_, u0, u1, u2, u3, u4, u5, u6, u7, rfl, rfl⟩ (by k_asm) (by k_asm)
end
section
open PySem PySem.W PySem.Calls PyProof.Rows PySem.Spec
set_option compiler.extract_closed false
variable {w : World} {mean : ExcName → Option Value} {mg mb : Str → Option Value}
open PyProof.Rows.LCg PyProof.Rows.LCt PySem.Flt
theorem drop7 {h₀ h : Heap} {L : Addr} {a b c d e f g : Addr × Obj} {r : List (Addr × Obj)} (N : News h₀ L h (a :: b :: c :: d :: e :: f :: g :: r)) : News h₀ L h r := fun p hp => N p (by walk_at "memt")
theorem news7 {h₀ h : Heap} {L : Addr} {a b c d e f g : Addr × Obj} {led : List (Addr × Obj)} (N : News h₀ L h led) (h1 : a ∈ led) (h2 : b ∈ led) (h3 : c ∈ led) (h4 : d ∈ led) (h5 : e ∈ led) (h6 : f ∈ led) (h7 : g ∈ led) : News h₀ L h (a :: b :: c :: d :: e :: f :: g :: led) := fun p hp => N p (by
  simp only [List.mem_cons] at hp
  rcases hp with rfl | rfl | rfl | rfl | rfl | rfl | rfl | hp <;> assumption)
noncomputable abbrev tellT (R K : Addr) (M m : Nat) (a b : Tok) : Obj := kdv_tup [.ref R, .ref K, .float (topF M) a, .float (lowF M m) b]
noncomputable abbrev tellK (M m : Nat) (p0 p1 p2 p3 p4 p5 p6 p7 p8 : Tok) : Obj := lst [.int (keptM M m 0 : Nat) p0, .int (keptM M m 1 : Nat) p1, .int (keptM M m 2 : Nat) p2, .int (keptM M m 3 : Nat) p3, .int (keptM M m 4 : Nat) p4, .int (keptM M m 5 : Nat) p5, .int (keptM M m 6 : Nat) p6, .int (keptM M m 7 : Nat) p7, .int (keptM M m 8 : Nat) p8]
noncomputable abbrev tellR (M m : Nat) (a b d : Tok) (c : Nat) : Obj := W.listOf #[.int (M : Nat) a, .int (8 - M - m : Nat) b, .int (m : Nat) d] c
theorem use_holds {dp un : Nat} {gd : Option (List Code)} {cn : Str} {cs : Scope} {a' : Addr} {ccd : Value} {cl : List (Str × Addr)} {outer : List Env} {A₀ : Around} {base h₀ : Heap} {L : Addr} {m : Str → Option Value} {s : Shared} {Q E : Value → Shared → Prop} {led : List (Addr × Obj)}
    {T1 K1 R1 T2 K2 R2 S : Addr} {M1 m1 M2 m2 c1 c2 : Nat} {x y z : Int} {a1 a2 a3 a4 a5 b1 b2 b3 b4 b5 s1 s2 s3 : Tok} {p0 p1 p2 p3 p4 p5 p6 p7 p8 q0 q1 q2 q3 q4 q5 q6 q7 q8 : Tok}
    (B : Below A₀ base outer h₀) (F : Fr h₀ L s.heap m) (X : (KW w.params).In h₀) (N : News h₀ L s.heap led) (T : Top (vw pw) (looseW (vw pw) looseL) mean mg mb h₀) (hk : cs.kind = .function)
    (i1 : (T1, tellT R1 K1 M1 m1 a1 a2) ∈ led) (i2 : (K1, tellK M1 m1 p0 p1 p2 p3 p4 p5 p6 p7 p8) ∈ led) (i3 : (R1, tellR M1 m1 a3 a4 a5 c1) ∈ led)
    (i4 : (T2, tellT R2 K2 M2 m2 b1 b2) ∈ led) (i5 : (K2, tellK M2 m2 q0 q1 q2 q3 q4 q5 q6 q7 q8) ∈ led) (i6 : (R2, tellR M2 m2 b3 b4 b5 c2) ∈ led) (i7 : (S, kdv_tup [.int x s1, .int y s2, .int z s3]) ∈ led)
    (hp : (M1 + 2 * m1 ≤ 8 ∧ 8 ≤ 2 * M1 + m1) ∧ (M2 + 2 * m2 ≤ 8 ∧ 8 ≤ 2 * M2 + m2) ∧ (1 ≤ x ∧ x ≤ 5) ∧ (1 ≤ y ∧ y ≤ 5) ∧ (1 ≤ z ∧ z ≤ 5)) (hd : dp + 6 < recursionLimit) (hu : un + 8 * 6 < cLine)
    (hQ : ∀ (h' : Heap) (tk' : Nat), Fr h₀ L h' m → News h₀ L h' led → Q (.bool true) { s with heap := h', toks := tk' }) : wpAny (model pw w) (ktrTop dp un gd cn cs L a' ccd cl outer) (call (.ref 157) [.ref T1, .ref T2, .ref S]) Q E s :=
  ClaimR.use (c_holds T1 K1 R1 T2 K2 R2 S M1 m1 M2 m2 c1 c2 x y z a1 a2 a3 a4 a5 b1 b2 b3 b4 b5 s1 s2 s3 p0 p1 p2 p3 p4 p5 p6 p7 p8 q0 q1 q2 q3 q4 q5 q6 q7 q8 led) B F X (news7 N i1 i2 i3 i4 i5 i6 i7) T hk hp hd hu (by
    rintro v led' h' tk' ⟨rfl, rfl⟩ F' N'
    exact hQ h' tk' F' (drop7 N'))
theorem draw_nn (ns : List Int) (i : Nat) : 0 ≤ drawI ns dues i := by
  unfold drawI
  split
  · exact Int.emod_nonneg _ (by decide)
  · match i with
    | 0 => decide
    | 1 => decide
    | 2 => decide
    | 3 => decide
    | 4 => decide
    | 5 => decide
    | 6 => decide
    | 7 => decide
    | 8 => decide
    | i + 9 => exact Int.le_refl 0
theorem use_draws {dp un : Nat} {gd : Option (List Code)} {cn : Str} {cs : Scope} {a : Addr} {ccd : Value} {cl : List (Str × Addr)} {outer : List Env} {A₀ : Around} {base h₀ : Heap} {L : Addr} {m : Str → Option Value} {s : Shared} {Q E : Value → Shared → Prop}
    {l D : Addr} {vs : List Value} {ns : List Int} {t0 t1 t2 t3 t4 t5 t6 t7 t8 : Tok} {news : List (Addr × Obj)}
    (B : Below A₀ base outer h₀) (F : Fr h₀ L s.heap m) (X : (KW w.params).In h₀) (N : News h₀ L s.heap ((D, kdv_tup [.int 127 t0, .int 89 t1, .int 175 t2, .int 298 t3, .int 51 t4, .int 224 t5, .int 106 t6, .int 252 t7, .int 51 t8]) :: news)) (T : Top (vw pw) (looseW (vw pw) looseL) mean mg mb h₀) (hk : cs.kind = .function)
    (hl : base.IsList l vs.toArray) (hi : IntsAre vs ns) (hlen : ns.length ≤ 63) (hd : dp + 2 < recursionLimit) (hu : un + 8 * 2 < cLine)
    (hQ : ∀ (R : Addr) (e0 e1 e2 e3 e4 e5 e6 e7 e8 : Int) (u0 u1 u2 u3 u4 u5 u6 u7 u8 : Tok) (h' : Heap) (tk' : Nat), 0 ≤ e0 → 0 ≤ e1 → 0 ≤ e2 → 0 ≤ e3 → 0 ≤ e4 → 0 ≤ e5 → 0 ≤ e6 → 0 ≤ e7 → Fr h₀ L h' m → News h₀ L h' ((R, lst [.int e0 u0, .int e1 u1, .int e2 u2, .int e3 u3, .int e4 u4, .int e5 u5, .int e6 u6, .int e7 u7, .int e8 u8]) :: (D, kdv_tup [.int 127 t0, .int 89 t1, .int 175 t2, .int 298 t3, .int 51 t4, .int 224 t5, .int 106 t6, .int 252 t7, .int 51 t8]) :: news) → Q (.ref R) { s with heap := h', toks := tk' }) :
    wpAny (model pw w) (ktrTop dp un gd cn cs L a ccd cl outer) (call (.ref 111) [.ref l, .ref D]) Q E s :=
  c_draws B F X N T hk hl hi hlen hd hu (by
    intro R ys h' tk' hys F' N'
    obtain ⟨u0, u1, u2, u3, u4, u5, u6, u7, u8, rfl⟩ := all2_e9 (a := 0) (b := 1) (c := 2) (d := 3) (e := 4) (f := 5) (g := 6) (h := 7) (i := 8) hys
    exact hQ R _ _ _ _ _ _ _ _ _ u0 u1 u2 u3 u4 u5 u6 u7 u8 h' tk' (draw_nn ns 0) (draw_nn ns 1) (draw_nn ns 2) (draw_nn ns 3) (draw_nn ns 4) (draw_nn ns 5) (draw_nn ns 6) (draw_nn ns 7) F' N')
theorem use_figures {dp un : Nat} {gd : Option (List Code)} {cn : Str} {cs : Scope} {a : Addr} {ccd : Value} {cl : List (Str × Addr)} {outer : List Env} {A₀ : Around} {base h₀ : Heap} {L : Addr} {m : Str → Option Value} {s : Shared} {Q E : Value → Shared → Prop} {l : Addr} {n0 n1 n2 n3 : Int} {t0 t1 t2 t3 : Tok} {c : Nat} {news : List (Addr × Obj)}
    (B : Below A₀ base outer h₀) (F : Fr h₀ L s.heap m) (X : (KW w.params).In h₀) (N : News h₀ L s.heap ((l, W.listOf #[.int n0 t0, .int n1 t1, .int n2 t2, .int n3 t3] c) :: news)) (T : Top (vw pw) (looseW (vw pw) looseL) mean mg mb h₀) (hk : cs.kind = .function) (h0 : 0 ≤ n0) (h1 : 0 ≤ n1) (h2 : 0 ≤ n2) (h3 : 0 ≤ n3) (hd : dp + 1 < recursionLimit) (hu : un + 8 * 1 < cLine)
    (hQ : ∀ (R : Addr) (u0 u1 u2 u3 u4 u5 u6 u7 : Tok) (h' : Heap) (tk' : Nat), Fr h₀ L h' m → News h₀ L h' ((R, lst [.int (n0 % 18) u0, .int (n0 / 18 % 18) u1, .int (n1 % 18) u2, .int (n1 / 18 % 18) u3, .int (n2 % 18) u4, .int (n2 / 18 % 18) u5, .int (n3 % 18) u6, .int (n3 / 18 % 18) u7]) :: (l, W.listOf #[.int n0 t0, .int n1 t1, .int n2 t2, .int n3 t3] c) :: news) → Q (.ref R) { s with heap := h', toks := tk' }) :
    wpAny (model pw w) (ktrTop dp un gd cn cs L a ccd cl outer) (call (.ref 116) [.ref l]) Q E s :=
  ClaimR.use (c_figures l n0 n1 n2 n3 t0 t1 t2 t3 c news) B F X N T hk ⟨h0, h1, h2, h3⟩ hd hu (by
    rintro v led h' tk' ⟨R, u0, u1, u2, u3, u4, u5, u6, u7, rfl, rfl⟩ F' N'
    exact hQ R u0 u1 u2 u3 u4 u5 u6 u7 h' tk' F' N')
theorem mod18 (n : Int) : 0 ≤ n % 18 ∧ n % 18 < 18 := ⟨Int.emod_nonneg _ (by decide), Int.emod_lt_of_pos _ (by decide)⟩
theorem use_told {dp un : Nat} {gd : Option (List Code)} {cn : Str} {cs : Scope} {a : Addr} {ccd : Value} {cl : List (Str × Addr)} {outer : List Env} {A₀ : Around} {base h₀ : Heap} {L : Addr} {m : Str → Option Value} {s : Shared} {Q E : Value → Shared → Prop} {l : Addr} {n0 n1 n2 n3 n4 n5 n6 n7 : Int} {t0 t1 t2 t3 t4 t5 t6 t7 : Tok} {news : List (Addr × Obj)}
    (B : Below A₀ base outer h₀) (F : Fr h₀ L s.heap m) (X : (KW w.params).In h₀) (N : News h₀ L s.heap ((l, LCg.lst [.int (n0 % 18) t0, .int (n1 % 18) t1, .int (n2 % 18) t2, .int (n3 % 18) t3, .int (n4 % 18) t4, .int (n5 % 18) t5, .int (n6 % 18) t6, .int (n7 % 18) t7]) :: news)) (T : Top (vw pw) (looseW (vw pw) looseL) mean mg mb h₀) (hk : cs.kind = .function) (hd : dp + 6 < recursionLimit) (hu : un + 8 * 6 < cLine)
    (hQ : ∀ (M k : Nat) (T R K : Addr) (c : Nat) (r1 r2 r3 ta tb w0 w1 w2 w3 w4 w5 w6 w7 w8 : Tok) (h' : Heap) (tk' : Nat), M + 2 * k ≤ 8 ∧ 8 ≤ 2 * M + k → Fr h₀ L h' m → News h₀ L h' ((T, kdv_tup [.ref R, .ref K, .float (topF M) ta, .float (lowF M k) tb]) :: (K, lst [.int (keptM M k 0 : Nat) w0, .int (keptM M k 1 : Nat) w1, .int (keptM M k 2 : Nat) w2, .int (keptM M k 3 : Nat) w3, .int (keptM M k 4 : Nat) w4, .int (keptM M k 5 : Nat) w5, .int (keptM M k 6 : Nat) w6, .int (keptM M k 7 : Nat) w7, .int (keptM M k 8 : Nat) w8]) :: (R, W.listOf #[.int (M : Nat) r1, .int (8 - M - k : Nat) r2, .int (k : Nat) r3] c) :: news) → Q (.ref T) { s with heap := h', toks := tk' }) :
    wpAny (model pw w) (ktrTop dp un gd cn cs L a ccd cl outer) (call (.ref 138) [.ref l]) Q E s :=
  ClaimR.use (c_told l _ _ _ _ _ _ _ _ t0 t1 t2 t3 t4 t5 t6 t7 news) B F X N T hk ⟨mod18 _, mod18 _, mod18 _, mod18 _, mod18 _, mod18 _, mod18 _, mod18 _⟩ hd hu (by
    rintro v led h' tk' ⟨M, k, T, R, K, vs, c, r1, r2, r3, ta, tb, ok1, ok2, rfl, rfl, hk'⟩ F' N'
    obtain ⟨w0, w1, w2, w3, w4, w5, w6, w7, w8, rfl⟩ := all2_e9 (a := 0) (b := 1) (c := 2) (d := 3) (e := 4) (f := 5) (g := 6) (h := 7) (i := 8) hk'
    exact hQ M k T R K c r1 r2 r3 ta tb w0 w1 w2 w3 w4 w5 w6 w7 w8 h' tk' ⟨ok1, ok2⟩ F' N')
end
section
open PySem PySem.W PySem.Calls PyProof.Rows PySem.Spec
set_option compiler.extract_closed false
variable {w : World} {mean : ExcName → Option Value} {mg mb : Str → Option Value}
open PyProof.Rows.LCg PyProof.Rows.LCt PySem.Flt
local macro_rules | `(tactic| walk_at "to call") => `(tactic| repeat' ((fail_if_success (with_reducible show wpAny _ _ (call (Value.ref _) _) _ _ _)); walk_at "one"))
local macro_rules | `(tactic| k_qdec) => `(tactic| decide +kernel)
theorem one_five (a : Int) : 1 ≤ 1 + a.fmod 5 ∧ 1 + a.fmod 5 ≤ 5 := by
  rw [Int.fmod_eq_emod_of_nonneg _ (by decide)]
  omega
set_option maxHeartbeats 8000000 in
theorem top_walk : PySem.Challenge.rw_tp0032_01.Holds := by
  w_on
  refine holds_law said fun said => ?_
  refine holds_open (q := vw pw) (loose := looseL) (Xt := XtP pw) (XP := XL (vw pw) []) (Yf := hookW.obs) (Ya := hookW.val) (YP := hookW.says) (N := NTop) left_w hookW.of hookW.keeps
    (fun s e => xl_of s (Bool.and_eq_true_iff.mp e).1) XL.keeps (by rfl) (by rfl) (by rfl) (fun s e => recFacts_of (Bool.and_eq_true_iff.mp e).2) (by rfl) (by assumption) (by decide +kernel) ⟨rfl, rfl, rfl, rfl, rfl, by decide +kernel⟩ ?hw ?hc
  case hw => w_witness2
  k_go0
  all_goals try k_fold
  rename Heap.IsList _ _ _ => hL
  rename IntsAre _ _ => hI
  rename ¬ (_ : Int) < _ => hlen
  walk_at "to call"
  refine' use_draws ?k1 ?k2 ?k3 ?k4 ?k5 ?k6 hL hI ?k7 ?k8 ?k9 ?_
  case k1 => k_asm
  case k2 => k_asm
  case k3 => k_asm
  case k4 => k_asm
  case k5 => k_asm
  case k6 => exact rfl
  case k7 => omega
  case k8 => ktr_room
  case k9 => ktr_units
  clear hI hL hlen
  intro R e0 e1 e2 e3 e4 e5 e6 e7 e8 u0 u1 u2 u3 u4 u5 u6 u7 u8 h' tk' nn0 nn1 nn2 nn3 nn4 nn5 nn6 nn7 F' N'
  dsimp only
  k_unmd
  try k_fold
  walk_at "to call"
  refine' use_figures ?fA1 ?fA2 ?fA3 ?fA4 ?fA5 ?fA6 nn0 nn1 nn2 nn3 ?fA8 ?fA9 ?_
  case fA1 => k_asm
  case fA2 => k_asm
  case fA3 => k_asm
  case fA4 => k_asm
  case fA5 => k_asm
  case fA6 => exact rfl
  case fA8 => ktr_room
  case fA9 => ktr_units
  intro RA o0 o1 o2 o3 o4 o5 o6 o7 hA tkA FA NA
  dsimp only
  k_unmd
  try k_fold
  walk_at "to call"
  refine' use_told ?tP1 ?tP2 ?tP3 ?tP4 ?tP5 ?tP6 ?tP8 ?tP9 ?_
  case tP1 => k_asm
  case tP2 => k_asm
  case tP3 => k_asm
  case tP4 => k_asm
  case tP5 => k_asm
  case tP6 => exact rfl
  case tP8 => ktr_room
  case tP9 => ktr_units
  intro MP mP TP RP KP cP rP1 rP2 rP3 tPa tPb w0P w1P w2P w3P w4P w5P w6P w7P w8P hP tkP okP FP NP
  dsimp only
  k_unmd
  try k_fold
  walk_at "to call"
  refine' use_figures ?fB1 ?fB2 ?fB3 ?fB4 ?fB5 ?fB6 nn4 nn5 nn6 nn7 ?fB8 ?fB9 ?_
  case fB1 => k_asm
  case fB2 => k_asm
  case fB3 => k_asm
  case fB4 => k_asm
  case fB5 => k_asm
  case fB6 => exact rfl
  case fB8 => ktr_room
  case fB9 => ktr_units
  intro RB o0 o1 o2 o3 o4 o5 o6 o7 hB tkB FB NB
  dsimp only
  k_unmd
  try k_fold
  walk_at "to call"
  refine' use_told ?tQ1 ?tQ2 ?tQ3 ?tQ4 ?tQ5 ?tQ6 ?tQ8 ?tQ9 ?_
  case tQ1 => k_asm
  case tQ2 => k_asm
  case tQ3 => k_asm
  case tQ4 => k_asm
  case tQ5 => k_asm
  case tQ6 => exact rfl
  case tQ8 => ktr_room
  case tQ9 => ktr_units
  intro MQ mQ TQ RQ KQ cQ rQ1 rQ2 rQ3 tQa tQb w0Q w1Q w2Q w3Q w4Q w5Q w6Q w7Q w8Q hQ tkQ okQ FQ NQ
  dsimp only
  k_unmd
  try k_fold
  walk_at "to call"
  refine' use_holds ?hY1 ?hY2 ?hY3 ?hY4 ?hY5 ?hY6 ?iY1 ?iY2 ?iY3 ?iY4 ?iY5 ?iY6 ?iY7 ?hY7 ?hY8 ?hY9 ?_
  case hY1 => k_asm
  case hY2 => k_asm
  case hY3 => k_asm
  case hY4 => k_asm
  case hY5 => k_asm
  case hY6 => exact rfl
  case iY1 => walk_at "memt"
  case iY2 => walk_at "memt"
  case iY3 => walk_at "memt"
  case iY4 => walk_at "memt"
  case iY5 => walk_at "memt"
  case iY6 => walk_at "memt"
  case iY7 => walk_at "memt"
  case hY7 => exact ⟨okP, okQ, one_five _, one_five _, one_five _⟩
  case hY8 => ktr_room
  case hY9 => ktr_units
  intro hY tkY FY NY
  dsimp only
  k_unmd
  try k_fold
  walk_at "to call"
  refine' use_holds ?hZ1 ?hZ2 ?hZ3 ?hZ4 ?hZ5 ?hZ6 ?iZ1 ?iZ2 ?iZ3 ?iZ4 ?iZ5 ?iZ6 ?iZ7 ?hZ7 ?hZ8 ?hZ9 ?_
  case hZ1 => k_asm
  case hZ2 => k_asm
  case hZ3 => k_asm
  case hZ4 => k_asm
  case hZ5 => k_asm
  case hZ6 => exact rfl
  case iZ1 => walk_at "memt"
  case iZ2 => walk_at "memt"
  case iZ3 => walk_at "memt"
  case iZ4 => walk_at "memt"
  case iZ5 => walk_at "memt"
  case iZ6 => walk_at "memt"
  case iZ7 => walk_at "memt"
  case hZ7 => exact ⟨okQ, okP, one_five _, one_five _, one_five _⟩
  case hZ8 => ktr_room
  case hZ9 => ktr_units
  intro hZ tkZ FZ NZ
  dsimp only
  k_unmd
  try k_fold
  k_steps
end
end Mine
theorem PySem.Challenge.cw_tp0032_01_holds : PySem.Challenge.rw_tp0032_01.Holds := by
  exact Mine.top_walk
