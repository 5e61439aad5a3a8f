import PyProof.Rows.All
import Wide.All
import OpenK.AllK
import Wide.FinOn
import PyProof.IsiStr
import PyProof.IsiH_list
import PySem.Challenge.RW_ta0077_01
open PySem PySem.W PyProof.Rows PySem.Calls
set_option Elab.async false
set_option compiler.extract_closed false
set_option maxRecDepth 100000
set_option linter.all false
namespace Mine
theorem dn {a n m : Nat} (h : a ≤ n) (k : n.succ ≤ m := by decide) : a.succ ≤ m := Nat.le_trans (Nat.succ_le_succ h) k
theorem un {a n m : Nat} (h : a ≤ n) (k : n + 3 ≤ m := by decide) : a + 3 ≤ m := Nat.le_trans (Nat.add_le_add_right h 3) k
-- HeadA
section
/-- what one level of the evaluator is: trees of any kind, and a code run to its end -/
structure Lev where
  tree : (α : Type) → Ctx → Sem α → Pos → SharedT → Option (Except Value α × Pos × SharedT)
  code : Ctx → Pos → SharedT → Option (Result × SharedT)

/-- a big-step evaluator of trees over the heap's tree: n bounds the sequence on each level -/
noncomputable def ev (den : Code → Sem Fin) (pr : Program) (w : World) : Nat → Lev
  | 0 => ⟨fun _ _ _ _ _ => none, fun _ _ _ => none⟩
  | n + 1 =>
    ⟨fun α Γ t p s => match t with
      | .pure a => some (.ok a, p, s)
      | .raise e => some (.error e, p, s)
      | .rule _ k => (ev den pr w n).tree α Γ (k ()) p s
      | .at p' k => (ev den pr w n).tree α Γ (k ()) p' s
      | .load a _ k => match Nat.blt a s.n with
        | true => match s.tree.get a with
          | some o => match alive o with
            | some o' => (ev den pr w n).tree α Γ (k o') p s
            | none => none
          | none => none
        | false => none
      | .update a _ f k => match Nat.blt a s.n with
        | true => match s.tree.get a with
          | some o => match alive o with
            | some _ => (ev den pr w n).tree α Γ (k ()) p ⟨s.tree.set a f, s.n, s.life, s.gens, s.drawn, s.toks, s.os⟩
            | none => none
          | none => none
        | false => none
      | .alloc o k => match ((s.tree.ins s.n o).get s.n).isSome with
        | true => (ev den pr w n).tree α Γ (k s.n) p ⟨s.tree.ins s.n o, s.n + 1, s.life, s.gens, s.drawn, s.toks, s.os⟩
        | false => none
      | .loadIfAlive a k => match Nat.blt a s.n with
        | true => match s.tree.get a with
          | some o => (ev den pr w n).tree α Γ (k (alive o)) p s
          | none => none
        | false => (ev den pr w n).tree α Γ (k none) p s
      | .point _ k => (ev den pr w n).tree α Γ (k ()) p s
      | .fresh k => (ev den pr w n).tree α Γ (k s.toks) p ⟨s.tree, s.n, s.life, s.gens, s.drawn, s.toks + 1, s.os⟩
      | .ask k => (ev den pr w n).tree α Γ (k ⟨pr, w.params⟩) p s
      | .call c h _ _ k => match (ev den pr w n).code (Γ.enter c h p) p s with
        | some (r, s') => (ev den pr w n).tree α Γ (k r) p s'
        | none => none
      | .handled own k => (ev den pr w n).tree α Γ (k (if own then Γ.own else Γ.handled)) p s
      | .stack k => (ev den pr w n).tree α Γ (k ((Γ.code, p) :: Γ.below)) p s
      | .thread k => (ev den pr w n).tree α Γ (k 0) p s
      | _ => none,
     fun Γ p s => match (ev den pr w n).tree Fin Γ (den Γ.code) p s with
      | some (.ok (.done f), _, s') => some (.ok f, s')
      | some (.ok (.again c), p', s') => match c.quiet with
        | true => (ev den pr w n).code (Γ.goto c) p' s'
        | false => none
      | some (.error e, _, s') => some (.error e, s')
      | none => none⟩

noncomputable def After {α : Type} (Q : α → Pos → Shared → Prop) (E : Value → Pos → Shared → Prop) (r : Except Value α) (p : Pos) (s : Shared) : Prop := match r with
  | .ok a => Q a p s
  | .error e => E e p s

theorem ev_sound {den : Code → Sem Fin} {pr : Program} {w : World} : ∀ n : Nat,
    (∀ (α : Type) (Γ : Ctx) (t : Sem α) (p : Pos) (s : SharedT) r p' s' (Q : α → Pos → Shared → Prop) (E : Value → Pos → Shared → Prop),
      (ev den pr w n).tree α Γ t p s = some (r, p', s') → After Q E r p' s'.abs → Sem.wp ⟨den, pr, w⟩ Γ t Q E p s.abs) ∧
    (∀ (Γ : Ctx) (p : Pos) (s : SharedT) r s' (R : Result → Shared → Prop), (ev den pr w n).code Γ p s = some (r, s') → R r s'.abs → wpCode ⟨den, pr, w⟩ Γ R p s.abs)
  | 0 => ⟨fun _ _ _ _ _ _ _ _ _ _ h => by simp [ev] at h, fun _ _ _ _ _ _ h => by simp [ev] at h⟩
  | n + 1 => by
    obtain ⟨iht, ihc⟩ := ev_sound (den := den) (pr := pr) (w := w) n
    refine ⟨fun α Γ t p s r p' s' Q E h hQ => ?_, fun Γ p s r s' R h hR => ?_⟩
    · obtain ⟨T, N, life, gens, drawn, toks, os⟩ := s
      cases t with
      | pure a => simp only [ev] at h; cases h; exact hQ
      | raise e => simp only [ev] at h; cases h; exact hQ
      | rule tag k => simp only [ev] at h; rw [Sem.wp_rule]; exact iht _ _ _ _ _ _ _ _ _ _ h hQ
      | «at» p₁ k => simp only [ev] at h; rw [Sem.wp_at]; exact iht _ _ _ _ _ _ _ _ _ _ h hQ
      | point l k => simp only [ev] at h; rw [Sem.wp_point]; exact iht _ _ _ _ _ _ _ _ _ _ h hQ
      | handled own k => simp only [ev] at h; rw [Sem.wp_handled]; exact iht _ _ _ _ _ _ _ _ _ _ h hQ
      | stack k => simp only [ev] at h; rw [Sem.wp_stack]; exact iht _ _ _ _ _ _ _ _ _ _ h hQ
      | thread k => simp only [ev] at h; rw [Sem.wp_thread]; exact iht _ _ _ _ _ _ _ _ _ _ h hQ
      | ask k => simp only [ev] at h; rw [Sem.wp_ask]; exact iht _ _ _ _ _ _ _ _ _ _ h hQ
      | fresh k => simp only [ev] at h; rw [Sem.wp_fresh]; exact iht _ _ _ _ _ _ _ _ _ _ h hQ
      | load a part k =>
        simp only [ev] at h
        cases e : Nat.blt a N with
        | false => rw [e] at h; cases h
        | true =>
          have lt : a < N := Nat.le_of_ble_eq_true e
          rw [e] at h
          cases g : T.get a with
          | none => rw [g] at h; cases h
          | some o =>
            cases al : alive o with
            | none => simp only [g, al] at h; cases h
            | some o' =>
              simp only [g, al] at h
              rw [Sem.wp_load]
              exact ⟨o', (abs_get lt g).trans al, iht _ _ _ _ _ _ _ _ _ _ h hQ⟩
      | update a part f k =>
        simp only [ev] at h
        cases e : Nat.blt a N with
        | false => rw [e] at h; cases h
        | true =>
          have lt : a < N := Nat.le_of_ble_eq_true e
          rw [e] at h
          cases g : T.get a with
          | none => rw [g] at h; cases h
          | some o =>
            cases al : alive o with
            | none => simp only [g, al] at h; cases h
            | some o' =>
              simp only [g, al] at h
              rw [Sem.wp_update]
              refine ⟨?_, ?_⟩
              · show ((absHeap T N life).get? a).isSome = true
                rw [abs_get lt g, al]; rfl
              · have := iht _ _ _ _ _ _ _ _ Q E h hQ
                have e2 : SharedT.abs ⟨T.set a f, N, life, gens, drawn, toks, os⟩ = { (SharedT.abs ⟨T, N, life, gens, drawn, toks, os⟩) with heap := (SharedT.abs ⟨T, N, life, gens, drawn, toks, os⟩).heap.update a f } := by
                  show Shared.mk (absHeap (T.set a f) N life) gens drawn toks os = Shared.mk ((absHeap T N life).update a f) gens drawn toks os
                  rw [absHeap_set g]
                rw [e2] at this
                exact this
      | alloc o k =>
        simp only [ev] at h
        cases e : ((T.ins N o).get N).isSome with
        | false => rw [e] at h; cases h
        | true =>
          rw [e] at h
          have := iht _ _ _ _ _ _ _ _ Q E h hQ
          rw [Sem.wp_alloc]
          have e2 : SharedT.abs ⟨T.ins N o, N + 1, life, gens, drawn, toks, os⟩ = { (SharedT.abs ⟨T, N, life, gens, drawn, toks, os⟩) with heap := (SharedT.abs ⟨T, N, life, gens, drawn, toks, os⟩).heap.push o } := by
            show Shared.mk (absHeap (T.ins N o) (N + 1) life) gens drawn toks os = Shared.mk ((absHeap T N life).push o) gens drawn toks os
            rw [absHeap_ins e]
          have e3 : (SharedT.abs ⟨T, N, life, gens, drawn, toks, os⟩).heap.objs.size = N := absHeap_size T N life
          rw [e2] at this
          rw [e3]
          exact this
      | loadIfAlive a k =>
        simp only [ev] at h
        rw [Sem.wp_loadIfAlive]
        cases e : Nat.blt a N with
        | false =>
          rw [e] at h
          have lt : ¬ a < N := fun q => by rw [show Nat.blt a N = true from Nat.ble_eq_true_of_le q] at e; cases e
          rw [show (SharedT.abs ⟨T, N, life, gens, drawn, toks, os⟩).heap.get? a = none from abs_get_none lt]
          exact iht _ _ _ _ _ _ _ _ _ _ h hQ
        | true =>
          have lt : a < N := Nat.le_of_ble_eq_true e
          rw [e] at h
          cases g : T.get a with
          | none => simp only [g] at h; cases h
          | some o =>
            simp only [g] at h
            rw [show (SharedT.abs ⟨T, N, life, gens, drawn, toks, os⟩).heap.get? a = alive o from abs_get lt g]
            exact iht _ _ _ _ _ _ _ _ _ _ h hQ
      | call c hd g l k =>
        simp only [ev] at h
        rw [Sem.wp_call]
        cases q : (ev den pr w n).code (Γ.enter c hd p) p ⟨T, N, life, gens, drawn, toks, os⟩ with
        | none => rw [q] at h; cases h
        | some x =>
          obtain ⟨r₁, s₁⟩ := x
          rw [q] at h
          exact ihc _ _ _ _ _ _ q (iht _ _ _ _ _ _ _ _ _ _ h hQ)
      | unsupported | finish | register | choose | os | newGen | genState | resume | «yield» | fork | await => simp only [ev] at h; cases h
    · rw [wpCode_iff_wp]
      simp only [ev] at h
      show Sem.wp ⟨den, pr, w⟩ Γ (den Γ.code) _ _ p s.abs
      cases q : (ev den pr w n).tree Fin Γ (den Γ.code) p s with
      | none => rw [q] at h; cases h
      | some x =>
        obtain ⟨r₁, p₁, s₁⟩ := x
        rw [q] at h
        cases r₁ with
        | error e => simp only at h; cases h; exact iht _ _ _ _ _ _ _ _ _ _ q hR
        | ok fin =>
          cases fin with
          | done f => simp only at h; cases h; exact iht _ _ _ _ _ _ _ _ _ _ q hR
          | again c =>
            simp only at h
            cases hc : c.quiet with
            | false => rw [hc] at h; cases h
            | true =>
              rw [hc] at h
              exact iht _ _ _ _ _ _ _ _ _ _ q ⟨hc, ihc _ _ _ _ _ _ h hR⟩
end
-- HeadB
section
noncomputable section
abbrev pw : Program := PySem.Challenge.pw_ta0077_01
abbrev sS (l : List Nat) : PySem.Str := ⟨Array.mk l⟩
noncomputable def topB : List Stmt := behindTheImports pw
noncomputable def stA (i : Nat) : Stmt := topB.getD i (.Pass default)
noncomputable def sts (i j : Nat) : List Stmt := (topB.drop i).take (j - i)
noncomputable def fdB (i : Nat) : List Stmt := match stA i with
  | .FunctionDef _ _ b _ _ _ _ _ _ _ => b
  | _ => []
noncomputable def fdP (i : Nat) : Arguments := match stA i with
  | .FunctionDef _ a _ _ _ _ _ _ _ _ => a
  | _ => default
noncomputable def fdS (i : Nat) : Scope := match stA i with
  | .FunctionDef _ _ _ _ _ _ s _ _ _ => s
  | _ => default
noncomputable def boot_life : Life := {}
noncomputable def kInt : Option Expr → Int
  | some (.Constant (.int i) _ _) => i
  | _ => 0
noncomputable def kStr : Expr → PySem.Str
  | .Constant (.str x) _ _ => x
  | _ => default
noncomputable def b3E : List (Option Expr) × List Expr := match stA 17 with
  | .Assign _ (.Dict ks vs _) _ => (ks, vs)
  | _ => ([], [])
/-- the table's pairs, as the text has them -/
noncomputable def kv : List (Int × PySem.Str) := (b3E.1.map kInt).zip (b3E.2.map kStr)
noncomputable def entL : Nat → List (Int × PySem.Str) → List DictEntry
  | _, [] => []
  | t, (i, x) :: r => ⟨hashInt i, .int i t, .str x (t + 1)⟩ :: entL (t + 3) r
noncomputable def entS : Nat → List (Int × PySem.Str) → List DictEntry
  | _, [] => []
  | t, (i, x) :: r => ⟨hashInt i, .int i t, .str x (t + 1)⟩ :: entS (t + 2) r
abbrev dO (es : List DictEntry) : Obj := ⟨.type "dict", none, .dict es.toArray es.length, Array.mk []⟩
noncomputable def b3Main : Obj := dO (entL 386 (kv.take 646) ++ entS 2324 (kv.drop 646))
noncomputable def o3 : Nat → Obj
  | 0 => b3Main
  | 38 => dO (entS 2324 (kv.drop 646))
  | k => dO (entL (386 + 51 * k) ((kv.drop (17 * k)).take 17))
noncomputable def oP_11 (P : Params) : Obj := ⟨(.type "tuple"), none, (.seq (Array.mk []) 0), Array.mk []⟩
noncomputable def oP_12 (P : Params) : Obj := ⟨.none, none, (.fields (Array.mk [])), Array.mk []⟩
noncomputable def oP_13 (P : Params) : Obj := ⟨(.type "code"), none, (.fields (Array.mk [(.str (sS [60, 109, 111, 100, 117, 108, 101, 62]) 182), (.str (sS [60, 109, 111, 100, 117, 108, 101, 62]) 183), (.str (sS [47, 99, 108, 97, 105, 109, 47, 99, 117, 116, 46, 112, 121]) 184), (.int 1 0), (.int 0 0), (.int 0 0), (.int 0 0), (.int 0 0), (.ref 11), (.bool false), (.int 181 0), (.ref 12), .none, .none, .none, .none, (.int 185 0), (.int 1 0), (.str (sS [47, 99, 108, 97, 105, 109, 47, 99, 117, 116, 46, 112, 121]) 186)])), Array.mk []⟩
noncomputable def oP_14 (P : Params) : Obj := ⟨(.type "frame"), none, .plain, Array.mk [(some (.ref 13)), (some (.ref 3)), (some (.ref 3)), none, (some (.str (sS [95, 95, 109, 97, 105, 110, 95, 95]) 164)), none, (some (.ref 0))]⟩
noncomputable def treeP (P : Params) : BT := (.node (boot_o_0 P) (.node (boot_o_1 P) (.node (boot_o_3 P) (.node (boot_o_7 P) .nil .nil) (.node (oP_11 P) .nil .nil)) (.node (boot_o_5 P) (.node (boot_o_9 P) .nil .nil) (.node (oP_13 P) .nil .nil))) (.node (boot_o_2 P) (.node (boot_o_4 P) (.node (boot_o_8 P) .nil .nil) (.node (oP_12 P) .nil .nil)) (.node (boot_o_6 P) (.node (boot_o_10 P) .nil .nil) (.node (oP_14 P) .nil .nil))))
noncomputable def SP (P : Params) (os : OsState) : SharedT := ⟨treeP P, 15, boot_life, Array.mk [], boot_drawn, 187, os⟩
-- P: objs 15 toks 187
noncomputable def treeB (P : Params) : BT := (.node (boot_o_0 P) (.node (boot_o_1 P) (.node (boot_o_3 P) (.node (boot_o_7 P) .nil .nil) (.node (oP_11 P) .nil .nil)) (.node (boot_o_5 P) (.node (boot_o_9 P) .nil .nil) (.node (oP_13 P) .nil .nil))) (.node (boot_o_2 P) (.node (boot_o_4 P) (.node (boot_o_8 P) .nil .nil) (.node (oP_12 P) .nil .nil)) (.node (boot_o_6 P) (.node (boot_o_10 P) .nil .nil) (.node (oP_14 P) .nil .nil))))
noncomputable def SB (P : Params) (os : OsState) : SharedT := ⟨treeB P, 15, boot_life, Array.mk [], boot_drawn, 187, os⟩
-- B: objs 15 toks 187
noncomputable def oE_3 (P : Params) : Obj := ⟨(.type "dict"), none, (.dict (Array.mk [⟨(PyData.keyHash P (sS [95, 95, 110, 97, 109, 101, 95, 95])), (.str (sS [95, 95, 110, 97, 109, 101, 95, 95]) 165), (.str (sS [99, 112, 121, 51, 49, 51, 46, 115, 116, 114, 105, 110, 103, 112, 114, 101, 112]) 317)⟩, ⟨(PyData.keyHash P (sS [95, 95, 100, 111, 99, 95, 95])), (.str (sS [95, 95, 100, 111, 99, 95, 95]) 166), .none⟩, ⟨(PyData.keyHash P (sS [95, 95, 112, 97, 99, 107, 97, 103, 101, 95, 95])), (.str (sS [95, 95, 112, 97, 99, 107, 97, 103, 101, 95, 95]) 167), .none⟩, ⟨(PyData.keyHash P (sS [95, 95, 108, 111, 97, 100, 101, 114, 95, 95])), (.str (sS [95, 95, 108, 111, 97, 100, 101, 114, 95, 95]) 168), (.builtin "__main__.__loader__#opaque")⟩, ⟨(PyData.keyHash P (sS [95, 95, 115, 112, 101, 99, 95, 95])), (.str (sS [95, 95, 115, 112, 101, 99, 95, 95]) 169), .none⟩, ⟨(PyData.keyHash P (sS [95, 95, 97, 110, 110, 111, 116, 97, 116, 105, 111, 110, 115, 95, 95])), (.str (sS [95, 95, 97, 110, 110, 111, 116, 97, 116, 105, 111, 110, 115, 95, 95]) 170), (.ref 6)⟩, ⟨(PyData.keyHash P (sS [95, 95, 98, 117, 105, 108, 116, 105, 110, 115, 95, 95])), (.str (sS [95, 95, 98, 117, 105, 108, 116, 105, 110, 115, 95, 95]) 171), (.ref 4)⟩, ⟨(PyData.keyHash P (sS [95, 95, 102, 105, 108, 101, 95, 95])), (.str (sS [95, 95, 102, 105, 108, 101, 95, 95]) 173), (.str (sS [47, 99, 108, 97, 105, 109, 47, 99, 117, 116, 46, 112, 121]) 172)⟩, ⟨(PyData.keyHash P (sS [95, 95, 99, 97, 99, 104, 101, 100, 95, 95])), (.str (sS [95, 95, 99, 97, 99, 104, 101, 100, 95, 95]) 174), .none⟩, ⟨(PyData.keyHash P (sS [67, 79, 77, 80, 73, 76, 69, 82, 95, 70, 76, 65, 71, 95, 78, 65, 77, 69, 83])), (.str (sS [67, 79, 77, 80, 73, 76, 69, 82, 95, 70, 76, 65, 71, 95, 78, 65, 77, 69, 83]) 219), (.ref 15)⟩, ⟨(PyData.keyHash P (sS [112, 114, 101, 116, 116, 121, 95, 102, 108, 97, 103, 115])), (.str (sS [112, 114, 101, 116, 116, 121, 95, 102, 108, 97, 103, 115]) 229), (.ref 22)⟩, ⟨(PyData.keyHash P (sS [108, 101])), (.str (sS [108, 101]) 239), (.ref 29)⟩, ⟨(PyData.keyHash P (sS [101, 113])), (.str (sS [101, 113]) 247), (.ref 36)⟩, ⟨(PyData.keyHash P (sS [108, 115, 104, 105, 102, 116])), (.str (sS [108, 115, 104, 105, 102, 116]) 255), (.ref 43)⟩, ⟨(PyData.keyHash P (sS [110, 101, 103])), (.str (sS [110, 101, 103]) 262), (.ref 50)⟩, ⟨(PyData.keyHash P (sS [111, 114, 95])), (.str (sS [111, 114, 95]) 270), (.ref 57)⟩, ⟨(PyData.keyHash P (sS [99, 111, 110, 99, 97, 116])), (.str (sS [99, 111, 110, 99, 97, 116]) 279), (.ref 64)⟩, ⟨(PyData.keyHash P (sS [99, 111, 117, 110, 116, 79, 102])), (.str (sS [99, 111, 117, 110, 116, 79, 102]) 289), (.ref 71)⟩, ⟨(PyData.keyHash P (sS [103, 101, 116, 105, 116, 101, 109])), (.str (sS [103, 101, 116, 105, 116, 101, 109]) 297), (.ref 78)⟩, ⟨(PyData.keyHash P (sS [105, 110, 100, 101, 120, 79, 102])), (.str (sS [105, 110, 100, 101, 120, 79, 102]) 307), (.ref 85)⟩, ⟨(PyData.keyHash P (sS [115, 101, 116, 105, 116, 101, 109])), (.str (sS [115, 101, 116, 105, 116, 101, 109]) 316), (.ref 92)⟩]) 21), Array.mk []⟩
noncomputable def oE_12 (P : Params) : Obj := ⟨.none, none, (.fields (Array.mk [(.int 3 0), (.int 0 0), (.ref 21), (.int 16 0), (.int 0 0), (.ref 28), (.int 18 0), (.int 0 0), (.ref 35), (.int 20 0), (.int 0 0), (.ref 42), (.int 22 0), (.int 0 0), (.ref 49), (.int 24 0), (.int 0 0), (.ref 56), (.int 26 0), (.int 0 0), (.ref 63), (.int 31 0), (.int 0 0), (.ref 70), (.int 37 0), (.int 0 0), (.ref 77), (.int 39 0), (.int 0 0), (.ref 84), (.int 45 0), (.int 0 0), (.ref 91)])), Array.mk []⟩
noncomputable def oE_15 (P : Params) : Obj := ⟨(.type "dict"), none, (.dict (Array.mk [⟨1, (.int 1 189), (.str (sS [79, 80, 84, 73, 77, 73, 90, 69, 68]) 190)⟩, ⟨2, (.int 2 191), (.str (sS [78, 69, 87, 76, 79, 67, 65, 76, 83]) 192)⟩, ⟨4, (.int 4 193), (.str (sS [86, 65, 82, 65, 82, 71, 83]) 194)⟩, ⟨8, (.int 8 195), (.str (sS [86, 65, 82, 75, 69, 89, 87, 79, 82, 68, 83]) 196)⟩, ⟨16, (.int 16 197), (.str (sS [78, 69, 83, 84, 69, 68]) 198)⟩, ⟨32, (.int 32 199), (.str (sS [71, 69, 78, 69, 82, 65, 84, 79, 82]) 200)⟩, ⟨64, (.int 64 201), (.str (sS [78, 79, 70, 82, 69, 69]) 202)⟩, ⟨128, (.int 128 203), (.str (sS [67, 79, 82, 79, 85, 84, 73, 78, 69]) 204)⟩, ⟨256, (.int 256 205), (.str (sS [73, 84, 69, 82, 65, 66, 76, 69, 95, 67, 79, 82, 79, 85, 84, 73, 78, 69]) 206)⟩, ⟨512, (.int 512 207), (.str (sS [65, 83, 89, 78, 67, 95, 71, 69, 78, 69, 82, 65, 84, 79, 82]) 208)⟩]) 10), Array.mk []⟩
noncomputable def oE_16 (P : Params) : Obj := ⟨(.type "tuple"), none, (.seq (Array.mk []) 0), Array.mk []⟩
noncomputable def oE_17 (P : Params) : Obj := ⟨.none, none, (.fields (Array.mk [])), Array.mk []⟩
noncomputable def oE_18 (P : Params) : Obj := ⟨(.type "tuple"), none, (.seq (Array.mk [(.str (sS [102, 108, 97, 103, 115]) 223), (.str (sS [110, 97, 109, 101, 115]) 224), (.str (sS [105]) 225), (.str (sS [102, 108, 97, 103]) 226)]) 0), Array.mk []⟩
noncomputable def oE_19 (P : Params) : Obj := ⟨(.type "tuple"), none, (.seq (Array.mk []) 0), Array.mk []⟩
noncomputable def oE_20 (P : Params) : Obj := ⟨.none, none, (.func ({ name := (sS [112, 114, 101, 116, 116, 121, 95, 102, 108, 97, 103, 115]), qualname := (sS [112, 114, 101, 116, 116, 121, 95, 102, 108, 97, 103, 115]), params := fdP 2, body := .stmts (fdB 2), scope := fdS 2, globals := 0, closure := [], defaults := .none, kwdefaults := .none, doc := .none, pyModule := .none, annotations := none, code := .none, closureTuple := .none, builtins := 0 : FuncData})), Array.mk []⟩
noncomputable def oE_21 (P : Params) : Obj := ⟨(.type "code"), none, (.fields (Array.mk [(.str (sS [112, 114, 101, 116, 116, 121, 95, 102, 108, 97, 103, 115]) 220), (.str (sS [112, 114, 101, 116, 116, 121, 95, 102, 108, 97, 103, 115]) 221), (.str (sS [47, 99, 108, 97, 105, 109, 47, 99, 117, 116, 46, 112, 121]) 222), (.int 3 0), (.int 1 0), (.int 0 0), (.int 0 0), (.int 3 0), (.ref 16), (.bool true), (.int 181 0), (.ref 17), .none, (.ref 18), (.ref 19), (.ref 20), (.int 227 0), (.int 3 0), (.str (sS [47, 99, 108, 97, 105, 109, 47, 99, 117, 116, 46, 112, 121]) 228)])), Array.mk []⟩
noncomputable def oE_22 (P : Params) : Obj := ⟨(.type "function"), none, (.func ({ name := (sS [112, 114, 101, 116, 116, 121, 95, 102, 108, 97, 103, 115]), qualname := (sS [112, 114, 101, 116, 116, 121, 95, 102, 108, 97, 103, 115]), params := fdP 2, body := .stmts (fdB 2), scope := fdS 2, globals := 3, closure := [], defaults := .none, kwdefaults := .none, doc := .none, pyModule := (.str (sS [99, 112, 121, 51, 49, 51, 46, 100, 105, 115]) 187), annotations := none, code := (.ref 21), closureTuple := .none, builtins := 0 : FuncData})), Array.mk []⟩
noncomputable def oE_23 (P : Params) : Obj := ⟨(.type "tuple"), none, (.seq (Array.mk []) 0), Array.mk []⟩
noncomputable def oE_24 (P : Params) : Obj := ⟨.none, none, (.fields (Array.mk [])), Array.mk []⟩
noncomputable def oE_25 (P : Params) : Obj := ⟨(.type "tuple"), none, (.seq (Array.mk [(.str (sS [97]) 235), (.str (sS [98]) 236)]) 0), Array.mk []⟩
noncomputable def oE_26 (P : Params) : Obj := ⟨(.type "tuple"), none, (.seq (Array.mk []) 0), Array.mk []⟩
noncomputable def oE_27 (P : Params) : Obj := ⟨.none, none, (.func ({ name := (sS [108, 101]), qualname := (sS [108, 101]), params := fdP 4, body := .stmts (fdB 4), scope := fdS 4, globals := 0, closure := [], defaults := .none, kwdefaults := .none, doc := .none, pyModule := .none, annotations := none, code := .none, closureTuple := .none, builtins := 0 : FuncData})), Array.mk []⟩
noncomputable def oE_28 (P : Params) : Obj := ⟨(.type "code"), none, (.fields (Array.mk [(.str (sS [108, 101]) 232), (.str (sS [108, 101]) 233), (.str (sS [47, 99, 108, 97, 105, 109, 47, 99, 117, 116, 46, 112, 121]) 234), (.int 16 0), (.int 2 0), (.int 0 0), (.int 0 0), (.int 3 0), (.ref 23), (.bool true), (.int 181 0), (.ref 24), .none, (.ref 25), (.ref 26), (.ref 27), (.int 237 0), (.int 16 0), (.str (sS [47, 99, 108, 97, 105, 109, 47, 99, 117, 116, 46, 112, 121]) 238)])), Array.mk []⟩
noncomputable def oE_29 (P : Params) : Obj := ⟨(.type "function"), none, (.func ({ name := (sS [108, 101]), qualname := (sS [108, 101]), params := fdP 4, body := .stmts (fdB 4), scope := fdS 4, globals := 3, closure := [], defaults := .none, kwdefaults := .none, doc := .none, pyModule := (.str (sS [99, 112, 121, 51, 49, 51, 46, 111, 112, 101, 114, 97, 116, 111, 114]) 230), annotations := none, code := (.ref 28), closureTuple := .none, builtins := 0 : FuncData})), Array.mk []⟩
noncomputable def oE_30 (P : Params) : Obj := ⟨(.type "tuple"), none, (.seq (Array.mk []) 0), Array.mk []⟩
noncomputable def oE_31 (P : Params) : Obj := ⟨.none, none, (.fields (Array.mk [])), Array.mk []⟩
noncomputable def oE_32 (P : Params) : Obj := ⟨(.type "tuple"), none, (.seq (Array.mk [(.str (sS [97]) 243), (.str (sS [98]) 244)]) 0), Array.mk []⟩
noncomputable def oE_33 (P : Params) : Obj := ⟨(.type "tuple"), none, (.seq (Array.mk []) 0), Array.mk []⟩
noncomputable def oE_34 (P : Params) : Obj := ⟨.none, none, (.func ({ name := (sS [101, 113]), qualname := (sS [101, 113]), params := fdP 5, body := .stmts (fdB 5), scope := fdS 5, globals := 0, closure := [], defaults := .none, kwdefaults := .none, doc := .none, pyModule := .none, annotations := none, code := .none, closureTuple := .none, builtins := 0 : FuncData})), Array.mk []⟩
noncomputable def oE_35 (P : Params) : Obj := ⟨(.type "code"), none, (.fields (Array.mk [(.str (sS [101, 113]) 240), (.str (sS [101, 113]) 241), (.str (sS [47, 99, 108, 97, 105, 109, 47, 99, 117, 116, 46, 112, 121]) 242), (.int 18 0), (.int 2 0), (.int 0 0), (.int 0 0), (.int 3 0), (.ref 30), (.bool true), (.int 181 0), (.ref 31), .none, (.ref 32), (.ref 33), (.ref 34), (.int 245 0), (.int 18 0), (.str (sS [47, 99, 108, 97, 105, 109, 47, 99, 117, 116, 46, 112, 121]) 246)])), Array.mk []⟩
noncomputable def oE_36 (P : Params) : Obj := ⟨(.type "function"), none, (.func ({ name := (sS [101, 113]), qualname := (sS [101, 113]), params := fdP 5, body := .stmts (fdB 5), scope := fdS 5, globals := 3, closure := [], defaults := .none, kwdefaults := .none, doc := .none, pyModule := (.str (sS [99, 112, 121, 51, 49, 51, 46, 111, 112, 101, 114, 97, 116, 111, 114]) 230), annotations := none, code := (.ref 35), closureTuple := .none, builtins := 0 : FuncData})), Array.mk []⟩
noncomputable def oE_37 (P : Params) : Obj := ⟨(.type "tuple"), none, (.seq (Array.mk []) 0), Array.mk []⟩
noncomputable def oE_38 (P : Params) : Obj := ⟨.none, none, (.fields (Array.mk [])), Array.mk []⟩
noncomputable def oE_39 (P : Params) : Obj := ⟨(.type "tuple"), none, (.seq (Array.mk [(.str (sS [97]) 251), (.str (sS [98]) 252)]) 0), Array.mk []⟩
noncomputable def oE_40 (P : Params) : Obj := ⟨(.type "tuple"), none, (.seq (Array.mk []) 0), Array.mk []⟩
noncomputable def oE_41 (P : Params) : Obj := ⟨.none, none, (.func ({ name := (sS [108, 115, 104, 105, 102, 116]), qualname := (sS [108, 115, 104, 105, 102, 116]), params := fdP 6, body := .stmts (fdB 6), scope := fdS 6, globals := 0, closure := [], defaults := .none, kwdefaults := .none, doc := .none, pyModule := .none, annotations := none, code := .none, closureTuple := .none, builtins := 0 : FuncData})), Array.mk []⟩
noncomputable def oE_42 (P : Params) : Obj := ⟨(.type "code"), none, (.fields (Array.mk [(.str (sS [108, 115, 104, 105, 102, 116]) 248), (.str (sS [108, 115, 104, 105, 102, 116]) 249), (.str (sS [47, 99, 108, 97, 105, 109, 47, 99, 117, 116, 46, 112, 121]) 250), (.int 20 0), (.int 2 0), (.int 0 0), (.int 0 0), (.int 3 0), (.ref 37), (.bool true), (.int 181 0), (.ref 38), .none, (.ref 39), (.ref 40), (.ref 41), (.int 253 0), (.int 20 0), (.str (sS [47, 99, 108, 97, 105, 109, 47, 99, 117, 116, 46, 112, 121]) 254)])), Array.mk []⟩
noncomputable def oE_43 (P : Params) : Obj := ⟨(.type "function"), none, (.func ({ name := (sS [108, 115, 104, 105, 102, 116]), qualname := (sS [108, 115, 104, 105, 102, 116]), params := fdP 6, body := .stmts (fdB 6), scope := fdS 6, globals := 3, closure := [], defaults := .none, kwdefaults := .none, doc := .none, pyModule := (.str (sS [99, 112, 121, 51, 49, 51, 46, 111, 112, 101, 114, 97, 116, 111, 114]) 230), annotations := none, code := (.ref 42), closureTuple := .none, builtins := 0 : FuncData})), Array.mk []⟩
noncomputable def oE_44 (P : Params) : Obj := ⟨(.type "tuple"), none, (.seq (Array.mk []) 0), Array.mk []⟩
noncomputable def oE_45 (P : Params) : Obj := ⟨.none, none, (.fields (Array.mk [])), Array.mk []⟩
noncomputable def oE_46 (P : Params) : Obj := ⟨(.type "tuple"), none, (.seq (Array.mk [(.str (sS [97]) 259)]) 0), Array.mk []⟩
noncomputable def oE_47 (P : Params) : Obj := ⟨(.type "tuple"), none, (.seq (Array.mk []) 0), Array.mk []⟩
noncomputable def oE_48 (P : Params) : Obj := ⟨.none, none, (.func ({ name := (sS [110, 101, 103]), qualname := (sS [110, 101, 103]), params := fdP 7, body := .stmts (fdB 7), scope := fdS 7, globals := 0, closure := [], defaults := .none, kwdefaults := .none, doc := .none, pyModule := .none, annotations := none, code := .none, closureTuple := .none, builtins := 0 : FuncData})), Array.mk []⟩
noncomputable def oE_49 (P : Params) : Obj := ⟨(.type "code"), none, (.fields (Array.mk [(.str (sS [110, 101, 103]) 256), (.str (sS [110, 101, 103]) 257), (.str (sS [47, 99, 108, 97, 105, 109, 47, 99, 117, 116, 46, 112, 121]) 258), (.int 22 0), (.int 1 0), (.int 0 0), (.int 0 0), (.int 3 0), (.ref 44), (.bool true), (.int 181 0), (.ref 45), .none, (.ref 46), (.ref 47), (.ref 48), (.int 260 0), (.int 22 0), (.str (sS [47, 99, 108, 97, 105, 109, 47, 99, 117, 116, 46, 112, 121]) 261)])), Array.mk []⟩
noncomputable def oE_50 (P : Params) : Obj := ⟨(.type "function"), none, (.func ({ name := (sS [110, 101, 103]), qualname := (sS [110, 101, 103]), params := fdP 7, body := .stmts (fdB 7), scope := fdS 7, globals := 3, closure := [], defaults := .none, kwdefaults := .none, doc := .none, pyModule := (.str (sS [99, 112, 121, 51, 49, 51, 46, 111, 112, 101, 114, 97, 116, 111, 114]) 230), annotations := none, code := (.ref 49), closureTuple := .none, builtins := 0 : FuncData})), Array.mk []⟩
noncomputable def oE_51 (P : Params) : Obj := ⟨(.type "tuple"), none, (.seq (Array.mk []) 0), Array.mk []⟩
noncomputable def oE_52 (P : Params) : Obj := ⟨.none, none, (.fields (Array.mk [])), Array.mk []⟩
noncomputable def oE_53 (P : Params) : Obj := ⟨(.type "tuple"), none, (.seq (Array.mk [(.str (sS [97]) 266), (.str (sS [98]) 267)]) 0), Array.mk []⟩
noncomputable def oE_54 (P : Params) : Obj := ⟨(.type "tuple"), none, (.seq (Array.mk []) 0), Array.mk []⟩
noncomputable def oE_55 (P : Params) : Obj := ⟨.none, none, (.func ({ name := (sS [111, 114, 95]), qualname := (sS [111, 114, 95]), params := fdP 8, body := .stmts (fdB 8), scope := fdS 8, globals := 0, closure := [], defaults := .none, kwdefaults := .none, doc := .none, pyModule := .none, annotations := none, code := .none, closureTuple := .none, builtins := 0 : FuncData})), Array.mk []⟩
noncomputable def oE_56 (P : Params) : Obj := ⟨(.type "code"), none, (.fields (Array.mk [(.str (sS [111, 114, 95]) 263), (.str (sS [111, 114, 95]) 264), (.str (sS [47, 99, 108, 97, 105, 109, 47, 99, 117, 116, 46, 112, 121]) 265), (.int 24 0), (.int 2 0), (.int 0 0), (.int 0 0), (.int 3 0), (.ref 51), (.bool true), (.int 181 0), (.ref 52), .none, (.ref 53), (.ref 54), (.ref 55), (.int 268 0), (.int 24 0), (.str (sS [47, 99, 108, 97, 105, 109, 47, 99, 117, 116, 46, 112, 121]) 269)])), Array.mk []⟩
noncomputable def oE_57 (P : Params) : Obj := ⟨(.type "function"), none, (.func ({ name := (sS [111, 114, 95]), qualname := (sS [111, 114, 95]), params := fdP 8, body := .stmts (fdB 8), scope := fdS 8, globals := 3, closure := [], defaults := .none, kwdefaults := .none, doc := .none, pyModule := (.str (sS [99, 112, 121, 51, 49, 51, 46, 111, 112, 101, 114, 97, 116, 111, 114]) 230), annotations := none, code := (.ref 56), closureTuple := .none, builtins := 0 : FuncData})), Array.mk []⟩
noncomputable def oE_58 (P : Params) : Obj := ⟨(.type "tuple"), none, (.seq (Array.mk []) 0), Array.mk []⟩
noncomputable def oE_59 (P : Params) : Obj := ⟨.none, none, (.fields (Array.mk [])), Array.mk []⟩
noncomputable def oE_60 (P : Params) : Obj := ⟨(.type "tuple"), none, (.seq (Array.mk [(.str (sS [97]) 274), (.str (sS [98]) 275), (.str (sS [109, 115, 103]) 276)]) 0), Array.mk []⟩
noncomputable def oE_61 (P : Params) : Obj := ⟨(.type "tuple"), none, (.seq (Array.mk []) 0), Array.mk []⟩
noncomputable def oE_62 (P : Params) : Obj := ⟨.none, none, (.func ({ name := (sS [99, 111, 110, 99, 97, 116]), qualname := (sS [99, 111, 110, 99, 97, 116]), params := fdP 9, body := .stmts (fdB 9), scope := fdS 9, globals := 0, closure := [], defaults := .none, kwdefaults := .none, doc := .none, pyModule := .none, annotations := none, code := .none, closureTuple := .none, builtins := 0 : FuncData})), Array.mk []⟩
noncomputable def oE_63 (P : Params) : Obj := ⟨(.type "code"), none, (.fields (Array.mk [(.str (sS [99, 111, 110, 99, 97, 116]) 271), (.str (sS [99, 111, 110, 99, 97, 116]) 272), (.str (sS [47, 99, 108, 97, 105, 109, 47, 99, 117, 116, 46, 112, 121]) 273), (.int 26 0), (.int 2 0), (.int 0 0), (.int 0 0), (.int 3 0), (.ref 58), (.bool true), (.int 181 0), (.ref 59), .none, (.ref 60), (.ref 61), (.ref 62), (.int 277 0), (.int 26 0), (.str (sS [47, 99, 108, 97, 105, 109, 47, 99, 117, 116, 46, 112, 121]) 278)])), Array.mk []⟩
noncomputable def oE_64 (P : Params) : Obj := ⟨(.type "function"), none, (.func ({ name := (sS [99, 111, 110, 99, 97, 116]), qualname := (sS [99, 111, 110, 99, 97, 116]), params := fdP 9, body := .stmts (fdB 9), scope := fdS 9, globals := 3, closure := [], defaults := .none, kwdefaults := .none, doc := .none, pyModule := (.str (sS [99, 112, 121, 51, 49, 51, 46, 111, 112, 101, 114, 97, 116, 111, 114]) 230), annotations := none, code := (.ref 63), closureTuple := .none, builtins := 0 : FuncData})), Array.mk []⟩
noncomputable def oE_65 (P : Params) : Obj := ⟨(.type "tuple"), none, (.seq (Array.mk []) 0), Array.mk []⟩
noncomputable def oE_66 (P : Params) : Obj := ⟨.none, none, (.fields (Array.mk [])), Array.mk []⟩
noncomputable def oE_67 (P : Params) : Obj := ⟨(.type "tuple"), none, (.seq (Array.mk [(.str (sS [97]) 283), (.str (sS [98]) 284), (.str (sS [99, 111, 117, 110, 116]) 285), (.str (sS [105]) 286)]) 0), Array.mk []⟩
noncomputable def oE_68 (P : Params) : Obj := ⟨(.type "tuple"), none, (.seq (Array.mk []) 0), Array.mk []⟩
noncomputable def oE_69 (P : Params) : Obj := ⟨.none, none, (.func ({ name := (sS [99, 111, 117, 110, 116, 79, 102]), qualname := (sS [99, 111, 117, 110, 116, 79, 102]), params := fdP 10, body := .stmts (fdB 10), scope := fdS 10, globals := 0, closure := [], defaults := .none, kwdefaults := .none, doc := .none, pyModule := .none, annotations := none, code := .none, closureTuple := .none, builtins := 0 : FuncData})), Array.mk []⟩
noncomputable def oE_70 (P : Params) : Obj := ⟨(.type "code"), none, (.fields (Array.mk [(.str (sS [99, 111, 117, 110, 116, 79, 102]) 280), (.str (sS [99, 111, 117, 110, 116, 79, 102]) 281), (.str (sS [47, 99, 108, 97, 105, 109, 47, 99, 117, 116, 46, 112, 121]) 282), (.int 31 0), (.int 2 0), (.int 0 0), (.int 0 0), (.int 3 0), (.ref 65), (.bool true), (.int 181 0), (.ref 66), .none, (.ref 67), (.ref 68), (.ref 69), (.int 287 0), (.int 31 0), (.str (sS [47, 99, 108, 97, 105, 109, 47, 99, 117, 116, 46, 112, 121]) 288)])), Array.mk []⟩
noncomputable def oE_71 (P : Params) : Obj := ⟨(.type "function"), none, (.func ({ name := (sS [99, 111, 117, 110, 116, 79, 102]), qualname := (sS [99, 111, 117, 110, 116, 79, 102]), params := fdP 10, body := .stmts (fdB 10), scope := fdS 10, globals := 3, closure := [], defaults := .none, kwdefaults := .none, doc := .none, pyModule := (.str (sS [99, 112, 121, 51, 49, 51, 46, 111, 112, 101, 114, 97, 116, 111, 114]) 230), annotations := none, code := (.ref 70), closureTuple := .none, builtins := 0 : FuncData})), Array.mk []⟩
noncomputable def oE_72 (P : Params) : Obj := ⟨(.type "tuple"), none, (.seq (Array.mk []) 0), Array.mk []⟩
noncomputable def oE_73 (P : Params) : Obj := ⟨.none, none, (.fields (Array.mk [])), Array.mk []⟩
noncomputable def oE_74 (P : Params) : Obj := ⟨(.type "tuple"), none, (.seq (Array.mk [(.str (sS [97]) 293), (.str (sS [98]) 294)]) 0), Array.mk []⟩
noncomputable def oE_75 (P : Params) : Obj := ⟨(.type "tuple"), none, (.seq (Array.mk []) 0), Array.mk []⟩
noncomputable def oE_76 (P : Params) : Obj := ⟨.none, none, (.func ({ name := (sS [103, 101, 116, 105, 116, 101, 109]), qualname := (sS [103, 101, 116, 105, 116, 101, 109]), params := fdP 11, body := .stmts (fdB 11), scope := fdS 11, globals := 0, closure := [], defaults := .none, kwdefaults := .none, doc := .none, pyModule := .none, annotations := none, code := .none, closureTuple := .none, builtins := 0 : FuncData})), Array.mk []⟩
noncomputable def oE_77 (P : Params) : Obj := ⟨(.type "code"), none, (.fields (Array.mk [(.str (sS [103, 101, 116, 105, 116, 101, 109]) 290), (.str (sS [103, 101, 116, 105, 116, 101, 109]) 291), (.str (sS [47, 99, 108, 97, 105, 109, 47, 99, 117, 116, 46, 112, 121]) 292), (.int 37 0), (.int 2 0), (.int 0 0), (.int 0 0), (.int 3 0), (.ref 72), (.bool true), (.int 181 0), (.ref 73), .none, (.ref 74), (.ref 75), (.ref 76), (.int 295 0), (.int 37 0), (.str (sS [47, 99, 108, 97, 105, 109, 47, 99, 117, 116, 46, 112, 121]) 296)])), Array.mk []⟩
noncomputable def oE_78 (P : Params) : Obj := ⟨(.type "function"), none, (.func ({ name := (sS [103, 101, 116, 105, 116, 101, 109]), qualname := (sS [103, 101, 116, 105, 116, 101, 109]), params := fdP 11, body := .stmts (fdB 11), scope := fdS 11, globals := 3, closure := [], defaults := .none, kwdefaults := .none, doc := .none, pyModule := (.str (sS [99, 112, 121, 51, 49, 51, 46, 111, 112, 101, 114, 97, 116, 111, 114]) 230), annotations := none, code := (.ref 77), closureTuple := .none, builtins := 0 : FuncData})), Array.mk []⟩
noncomputable def oE_79 (P : Params) : Obj := ⟨(.type "tuple"), none, (.seq (Array.mk []) 0), Array.mk []⟩
noncomputable def oE_80 (P : Params) : Obj := ⟨.none, none, (.fields (Array.mk [])), Array.mk []⟩
noncomputable def oE_81 (P : Params) : Obj := ⟨(.type "tuple"), none, (.seq (Array.mk [(.str (sS [97]) 301), (.str (sS [98]) 302), (.str (sS [105]) 303), (.str (sS [106]) 304)]) 0), Array.mk []⟩
noncomputable def oE_82 (P : Params) : Obj := ⟨(.type "tuple"), none, (.seq (Array.mk []) 0), Array.mk []⟩
noncomputable def oE_83 (P : Params) : Obj := ⟨.none, none, (.func ({ name := (sS [105, 110, 100, 101, 120, 79, 102]), qualname := (sS [105, 110, 100, 101, 120, 79, 102]), params := fdP 12, body := .stmts (fdB 12), scope := fdS 12, globals := 0, closure := [], defaults := .none, kwdefaults := .none, doc := .none, pyModule := .none, annotations := none, code := .none, closureTuple := .none, builtins := 0 : FuncData})), Array.mk []⟩
noncomputable def oE_84 (P : Params) : Obj := ⟨(.type "code"), none, (.fields (Array.mk [(.str (sS [105, 110, 100, 101, 120, 79, 102]) 298), (.str (sS [105, 110, 100, 101, 120, 79, 102]) 299), (.str (sS [47, 99, 108, 97, 105, 109, 47, 99, 117, 116, 46, 112, 121]) 300), (.int 39 0), (.int 2 0), (.int 0 0), (.int 0 0), (.int 3 0), (.ref 79), (.bool true), (.int 181 0), (.ref 80), .none, (.ref 81), (.ref 82), (.ref 83), (.int 305 0), (.int 39 0), (.str (sS [47, 99, 108, 97, 105, 109, 47, 99, 117, 116, 46, 112, 121]) 306)])), Array.mk []⟩
noncomputable def oE_85 (P : Params) : Obj := ⟨(.type "function"), none, (.func ({ name := (sS [105, 110, 100, 101, 120, 79, 102]), qualname := (sS [105, 110, 100, 101, 120, 79, 102]), params := fdP 12, body := .stmts (fdB 12), scope := fdS 12, globals := 3, closure := [], defaults := .none, kwdefaults := .none, doc := .none, pyModule := (.str (sS [99, 112, 121, 51, 49, 51, 46, 111, 112, 101, 114, 97, 116, 111, 114]) 230), annotations := none, code := (.ref 84), closureTuple := .none, builtins := 0 : FuncData})), Array.mk []⟩
noncomputable def oE_86 (P : Params) : Obj := ⟨(.type "tuple"), none, (.seq (Array.mk []) 0), Array.mk []⟩
noncomputable def oE_87 (P : Params) : Obj := ⟨.none, none, (.fields (Array.mk [])), Array.mk []⟩
noncomputable def oE_88 (P : Params) : Obj := ⟨(.type "tuple"), none, (.seq (Array.mk [(.str (sS [97]) 311), (.str (sS [98]) 312), (.str (sS [99]) 313)]) 0), Array.mk []⟩
noncomputable def oE_89 (P : Params) : Obj := ⟨(.type "tuple"), none, (.seq (Array.mk []) 0), Array.mk []⟩
noncomputable def oE_90 (P : Params) : Obj := ⟨.none, none, (.func ({ name := (sS [115, 101, 116, 105, 116, 101, 109]), qualname := (sS [115, 101, 116, 105, 116, 101, 109]), params := fdP 13, body := .stmts (fdB 13), scope := fdS 13, globals := 0, closure := [], defaults := .none, kwdefaults := .none, doc := .none, pyModule := .none, annotations := none, code := .none, closureTuple := .none, builtins := 0 : FuncData})), Array.mk []⟩
noncomputable def oE_91 (P : Params) : Obj := ⟨(.type "code"), none, (.fields (Array.mk [(.str (sS [115, 101, 116, 105, 116, 101, 109]) 308), (.str (sS [115, 101, 116, 105, 116, 101, 109]) 309), (.str (sS [47, 99, 108, 97, 105, 109, 47, 99, 117, 116, 46, 112, 121]) 310), (.int 45 0), (.int 3 0), (.int 0 0), (.int 0 0), (.int 3 0), (.ref 86), (.bool true), (.int 181 0), (.ref 87), .none, (.ref 88), (.ref 89), (.ref 90), (.int 314 0), (.int 45 0), (.str (sS [47, 99, 108, 97, 105, 109, 47, 99, 117, 116, 46, 112, 121]) 315)])), Array.mk []⟩
noncomputable def oE_92 (P : Params) : Obj := ⟨(.type "function"), none, (.func ({ name := (sS [115, 101, 116, 105, 116, 101, 109]), qualname := (sS [115, 101, 116, 105, 116, 101, 109]), params := fdP 13, body := .stmts (fdB 13), scope := fdS 13, globals := 3, closure := [], defaults := .none, kwdefaults := .none, doc := .none, pyModule := (.str (sS [99, 112, 121, 51, 49, 51, 46, 111, 112, 101, 114, 97, 116, 111, 114]) 230), annotations := none, code := (.ref 91), closureTuple := .none, builtins := 0 : FuncData})), Array.mk []⟩
noncomputable def treeE (P : Params) : BT := (.node (boot_o_0 P) (.node (boot_o_1 P) (.node (oE_3 P) (.node (boot_o_7 P) (.node (oE_15 P) (.node (oE_31 P) (.node (oE_63 P) .nil .nil) .nil) (.node (oE_47 P) (.node (oE_79 P) .nil .nil) .nil)) (.node (oE_23 P) (.node (oE_39 P) (.node (oE_71 P) .nil .nil) .nil) (.node (oE_55 P) (.node (oE_87 P) .nil .nil) .nil))) (.node (oP_11 P) (.node (oE_19 P) (.node (oE_35 P) (.node (oE_67 P) .nil .nil) .nil) (.node (oE_51 P) (.node (oE_83 P) .nil .nil) .nil)) (.node (oE_27 P) (.node (oE_43 P) (.node (oE_75 P) .nil .nil) .nil) (.node (oE_59 P) (.node (oE_91 P) .nil .nil) .nil)))) (.node (boot_o_5 P) (.node (boot_o_9 P) (.node (oE_17 P) (.node (oE_33 P) (.node (oE_65 P) .nil .nil) .nil) (.node (oE_49 P) (.node (oE_81 P) .nil .nil) .nil)) (.node (oE_25 P) (.node (oE_41 P) (.node (oE_73 P) .nil .nil) .nil) (.node (oE_57 P) (.node (oE_89 P) .nil .nil) .nil))) (.node (oP_13 P) (.node (oE_21 P) (.node (oE_37 P) (.node (oE_69 P) .nil .nil) .nil) (.node (oE_53 P) (.node (oE_85 P) .nil .nil) .nil)) (.node (oE_29 P) (.node (oE_45 P) (.node (oE_77 P) .nil .nil) .nil) (.node (oE_61 P) .nil .nil))))) (.node (boot_o_2 P) (.node (boot_o_4 P) (.node (boot_o_8 P) (.node (oE_16 P) (.node (oE_32 P) (.node (oE_64 P) .nil .nil) .nil) (.node (oE_48 P) (.node (oE_80 P) .nil .nil) .nil)) (.node (oE_24 P) (.node (oE_40 P) (.node (oE_72 P) .nil .nil) .nil) (.node (oE_56 P) (.node (oE_88 P) .nil .nil) .nil))) (.node (oE_12 P) (.node (oE_20 P) (.node (oE_36 P) (.node (oE_68 P) .nil .nil) .nil) (.node (oE_52 P) (.node (oE_84 P) .nil .nil) .nil)) (.node (oE_28 P) (.node (oE_44 P) (.node (oE_76 P) .nil .nil) .nil) (.node (oE_60 P) (.node (oE_92 P) .nil .nil) .nil)))) (.node (boot_o_6 P) (.node (boot_o_10 P) (.node (oE_18 P) (.node (oE_34 P) (.node (oE_66 P) .nil .nil) .nil) (.node (oE_50 P) (.node (oE_82 P) .nil .nil) .nil)) (.node (oE_26 P) (.node (oE_42 P) (.node (oE_74 P) .nil .nil) .nil) (.node (oE_58 P) (.node (oE_90 P) .nil .nil) .nil))) (.node (oP_14 P) (.node (oE_22 P) (.node (oE_38 P) (.node (oE_70 P) .nil .nil) .nil) (.node (oE_54 P) (.node (oE_86 P) .nil .nil) .nil)) (.node (oE_30 P) (.node (oE_46 P) (.node (oE_78 P) .nil .nil) .nil) (.node (oE_62 P) .nil .nil))))))
noncomputable def SE (P : Params) (os : OsState) : SharedT := ⟨treeE P, 93, boot_life, Array.mk [], boot_drawn, 319, os⟩
-- E: objs 93 toks 319
noncomputable def posE : Pos := ⟨47, 0, 47, 8⟩
noncomputable def oF_3 (P : Params) : Obj := ⟨(.type "dict"), none, (.dict (Array.mk [⟨(PyData.keyHash P (sS [95, 95, 110, 97, 109, 101, 95, 95])), (.str (sS [95, 95, 110, 97, 109, 101, 95, 95]) 165), (.str (sS [99, 112, 121, 51, 49, 51, 46, 115, 116, 114, 105, 110, 103, 112, 114, 101, 112]) 317)⟩, ⟨(PyData.keyHash P (sS [95, 95, 100, 111, 99, 95, 95])), (.str (sS [95, 95, 100, 111, 99, 95, 95]) 166), .none⟩, ⟨(PyData.keyHash P (sS [95, 95, 112, 97, 99, 107, 97, 103, 101, 95, 95])), (.str (sS [95, 95, 112, 97, 99, 107, 97, 103, 101, 95, 95]) 167), .none⟩, ⟨(PyData.keyHash P (sS [95, 95, 108, 111, 97, 100, 101, 114, 95, 95])), (.str (sS [95, 95, 108, 111, 97, 100, 101, 114, 95, 95]) 168), (.builtin "__main__.__loader__#opaque")⟩, ⟨(PyData.keyHash P (sS [95, 95, 115, 112, 101, 99, 95, 95])), (.str (sS [95, 95, 115, 112, 101, 99, 95, 95]) 169), .none⟩, ⟨(PyData.keyHash P (sS [95, 95, 97, 110, 110, 111, 116, 97, 116, 105, 111, 110, 115, 95, 95])), (.str (sS [95, 95, 97, 110, 110, 111, 116, 97, 116, 105, 111, 110, 115, 95, 95]) 170), (.ref 6)⟩, ⟨(PyData.keyHash P (sS [95, 95, 98, 117, 105, 108, 116, 105, 110, 115, 95, 95])), (.str (sS [95, 95, 98, 117, 105, 108, 116, 105, 110, 115, 95, 95]) 171), (.ref 4)⟩, ⟨(PyData.keyHash P (sS [95, 95, 102, 105, 108, 101, 95, 95])), (.str (sS [95, 95, 102, 105, 108, 101, 95, 95]) 173), (.str (sS [47, 99, 108, 97, 105, 109, 47, 99, 117, 116, 46, 112, 121]) 172)⟩, ⟨(PyData.keyHash P (sS [95, 95, 99, 97, 99, 104, 101, 100, 95, 95])), (.str (sS [95, 95, 99, 97, 99, 104, 101, 100, 95, 95]) 174), .none⟩, ⟨(PyData.keyHash P (sS [67, 79, 77, 80, 73, 76, 69, 82, 95, 70, 76, 65, 71, 95, 78, 65, 77, 69, 83])), (.str (sS [67, 79, 77, 80, 73, 76, 69, 82, 95, 70, 76, 65, 71, 95, 78, 65, 77, 69, 83]) 219), (.ref 15)⟩, ⟨(PyData.keyHash P (sS [112, 114, 101, 116, 116, 121, 95, 102, 108, 97, 103, 115])), (.str (sS [112, 114, 101, 116, 116, 121, 95, 102, 108, 97, 103, 115]) 229), (.ref 22)⟩, ⟨(PyData.keyHash P (sS [108, 101])), (.str (sS [108, 101]) 239), (.ref 29)⟩, ⟨(PyData.keyHash P (sS [101, 113])), (.str (sS [101, 113]) 247), (.ref 36)⟩, ⟨(PyData.keyHash P (sS [108, 115, 104, 105, 102, 116])), (.str (sS [108, 115, 104, 105, 102, 116]) 255), (.ref 43)⟩, ⟨(PyData.keyHash P (sS [110, 101, 103])), (.str (sS [110, 101, 103]) 262), (.ref 50)⟩, ⟨(PyData.keyHash P (sS [111, 114, 95])), (.str (sS [111, 114, 95]) 270), (.ref 57)⟩, ⟨(PyData.keyHash P (sS [99, 111, 110, 99, 97, 116])), (.str (sS [99, 111, 110, 99, 97, 116]) 279), (.ref 64)⟩, ⟨(PyData.keyHash P (sS [99, 111, 117, 110, 116, 79, 102])), (.str (sS [99, 111, 117, 110, 116, 79, 102]) 289), (.ref 71)⟩, ⟨(PyData.keyHash P (sS [103, 101, 116, 105, 116, 101, 109])), (.str (sS [103, 101, 116, 105, 116, 101, 109]) 297), (.ref 78)⟩, ⟨(PyData.keyHash P (sS [105, 110, 100, 101, 120, 79, 102])), (.str (sS [105, 110, 100, 101, 120, 79, 102]) 307), (.ref 85)⟩, ⟨(PyData.keyHash P (sS [115, 101, 116, 105, 116, 101, 109])), (.str (sS [115, 101, 116, 105, 116, 101, 109]) 316), (.ref 92)⟩, ⟨(PyData.keyHash P (sS [98, 49, 95, 115, 101, 116])), (.str (sS [98, 49, 95, 115, 101, 116]) 378), (.ref 100)⟩]) 22), Array.mk []⟩
noncomputable def oF_93 (P : Params) : Obj := ⟨(.type "list"), none, (.seq (Array.mk [(.int 173 319), (.int 847 320), (.int 6150 321), (.int 6155 322), (.int 6156 323), (.int 6157 324), (.int 8203 325), (.int 8204 326), (.int 8205 327), (.int 8288 328), (.int 65279 329)]) 0), Array.mk []⟩
noncomputable def oF_94 (P : Params) : Obj := ⟨(.type "range"), none, (.fields (Array.mk [(.int 65024 330), (.int 65040 331), (.int 1 332)])), Array.mk []⟩
noncomputable def oF_95 (P : Params) : Obj := ⟨(.type "list"), none, (.seq (Array.mk [(.int 65024 335), (.int 65025 336), (.int 65026 337), (.int 65027 338), (.int 65028 339), (.int 65029 340), (.int 65030 341), (.int 65031 342), (.int 65032 343), (.int 65033 344), (.int 65034 345), (.int 65035 346), (.int 65036 347), (.int 65037 348), (.int 65038 349), (.int 65039 350)]) 18), Array.mk []⟩
noncomputable def oF_96 (P : Params) : Obj := ⟨(.type "range_iterator"), none, (.fields (Array.mk [(.int 65040 0), (.int 0 0), (.int 1 0)])), Array.mk []⟩
noncomputable def oF_97 (P : Params) : Obj := ⟨(.type "tuple"), none, (.seq (Array.mk []) 0), Array.mk []⟩
noncomputable def oF_98 (P : Params) : Obj := ⟨(.type "StopIteration"), none, (.fields (Array.mk [(.ref 97), .none, .none, .none, (.bool false), .none])), Array.mk []⟩
noncomputable def oF_99 (P : Params) : Obj := ⟨(.type "list"), none, (.seq (Array.mk [(.int 173 319), (.int 847 320), (.int 6150 321), (.int 6155 322), (.int 6156 323), (.int 6157 324), (.int 8203 325), (.int 8204 326), (.int 8205 327), (.int 8288 328), (.int 65279 329), (.int 65024 335), (.int 65025 336), (.int 65026 337), (.int 65027 338), (.int 65028 339), (.int 65029 340), (.int 65030 341), (.int 65031 342), (.int 65032 343), (.int 65033 344), (.int 65034 345), (.int 65035 346), (.int 65036 347), (.int 65037 348), (.int 65038 349), (.int 65039 350)]) 0), Array.mk []⟩
noncomputable def oF_100 (P : Params) : Obj := ⟨(.type "set"), none, (.set (Array.mk [(65024, (.int 65024 335)), (65025, (.int 65025 336)), (65026, (.int 65026 337)), (65027, (.int 65027 338)), (65028, (.int 65028 339)), (65029, (.int 65029 340)), (6150, (.int 6150 321)), (65030, (.int 65030 341)), (65031, (.int 65031 342)), (65032, (.int 65032 343)), (65033, (.int 65033 344)), (6155, (.int 6155 322)), (6156, (.int 6156 323)), (6157, (.int 6157 324)), (8203, (.int 8203 325)), (8204, (.int 8204 326)), (8205, (.int 8205 327)), (65034, (.int 65034 345)), (65035, (.int 65035 346)), (65036, (.int 65036 347)), (65037, (.int 65037 348)), (65038, (.int 65038 349)), (65039, (.int 65039 350)), (173, (.int 173 319)), (847, (.int 847 320)), (8288, (.int 8288 328)), (65279, (.int 65279 329))]) 29 ⟨127, Array.mk [0, 1, 2, 3, 4, 5, 6, 7, 8, 9, 10, 11, 12, 13, 14, 15, 16, 17, 18, 19, 20, 21, 22, 45, 79, 96, 127], Array.mk [], 0, (!P.followText "set-order"), 2, true⟩), Array.mk []⟩
noncomputable def oF_101 (P : Params) : Obj := ⟨(.type "list_iterator"), none, (.fields (Array.mk [.none, (.int 27 0)])), Array.mk []⟩
noncomputable def oF_102 (P : Params) : Obj := ⟨(.type "tuple"), none, (.seq (Array.mk []) 0), Array.mk []⟩
noncomputable def oF_103 (P : Params) : Obj := ⟨(.type "StopIteration"), none, (.fields (Array.mk [(.ref 102), .none, .none, .none, (.bool false), .none])), Array.mk []⟩
noncomputable def treeF (P : Params) : BT := (.node (boot_o_0 P) (.node (boot_o_1 P) (.node (oF_3 P) (.node (boot_o_7 P) (.node (oE_15 P) (.node (oE_31 P) (.node (oE_63 P) .nil .nil) (.node (oF_95 P) .nil .nil)) (.node (oE_47 P) (.node (oE_79 P) .nil .nil) .nil)) (.node (oE_23 P) (.node (oE_39 P) (.node (oE_71 P) .nil .nil) (.node (oF_103 P) .nil .nil)) (.node (oE_55 P) (.node (oE_87 P) .nil .nil) .nil))) (.node (oP_11 P) (.node (oE_19 P) (.node (oE_35 P) (.node (oE_67 P) .nil .nil) (.node (oF_99 P) .nil .nil)) (.node (oE_51 P) (.node (oE_83 P) .nil .nil) .nil)) (.node (oE_27 P) (.node (oE_43 P) (.node (oE_75 P) .nil .nil) .nil) (.node (oE_59 P) (.node (oE_91 P) .nil .nil) .nil)))) (.node (boot_o_5 P) (.node (boot_o_9 P) (.node (oE_17 P) (.node (oE_33 P) (.node (oE_65 P) .nil .nil) (.node (oF_97 P) .nil .nil)) (.node (oE_49 P) (.node (oE_81 P) .nil .nil) .nil)) (.node (oE_25 P) (.node (oE_41 P) (.node (oE_73 P) .nil .nil) .nil) (.node (oE_57 P) (.node (oE_89 P) .nil .nil) .nil))) (.node (oP_13 P) (.node (oE_21 P) (.node (oE_37 P) (.node (oE_69 P) .nil .nil) (.node (oF_101 P) .nil .nil)) (.node (oE_53 P) (.node (oE_85 P) .nil .nil) .nil)) (.node (oE_29 P) (.node (oE_45 P) (.node (oE_77 P) .nil .nil) .nil) (.node (oE_61 P) (.node (oF_93 P) .nil .nil) .nil))))) (.node (boot_o_2 P) (.node (boot_o_4 P) (.node (boot_o_8 P) (.node (oE_16 P) (.node (oE_32 P) (.node (oE_64 P) .nil .nil) (.node (oF_96 P) .nil .nil)) (.node (oE_48 P) (.node (oE_80 P) .nil .nil) .nil)) (.node (oE_24 P) (.node (oE_40 P) (.node (oE_72 P) .nil .nil) .nil) (.node (oE_56 P) (.node (oE_88 P) .nil .nil) .nil))) (.node (oE_12 P) (.node (oE_20 P) (.node (oE_36 P) (.node (oE_68 P) .nil .nil) (.node (oF_100 P) .nil .nil)) (.node (oE_52 P) (.node (oE_84 P) .nil .nil) .nil)) (.node (oE_28 P) (.node (oE_44 P) (.node (oE_76 P) .nil .nil) .nil) (.node (oE_60 P) (.node (oE_92 P) .nil .nil) .nil)))) (.node (boot_o_6 P) (.node (boot_o_10 P) (.node (oE_18 P) (.node (oE_34 P) (.node (oE_66 P) .nil .nil) (.node (oF_98 P) .nil .nil)) (.node (oE_50 P) (.node (oE_82 P) .nil .nil) .nil)) (.node (oE_26 P) (.node (oE_42 P) (.node (oE_74 P) .nil .nil) .nil) (.node (oE_58 P) (.node (oE_90 P) .nil .nil) .nil))) (.node (oP_14 P) (.node (oE_22 P) (.node (oE_38 P) (.node (oE_70 P) .nil .nil) (.node (oF_102 P) .nil .nil)) (.node (oE_54 P) (.node (oE_86 P) .nil .nil) .nil)) (.node (oE_30 P) (.node (oE_46 P) (.node (oE_78 P) .nil .nil) .nil) (.node (oE_62 P) (.node (oF_94 P) .nil .nil) .nil))))))
noncomputable def SF (P : Params) (os : OsState) : SharedT := ⟨treeF P, 104, boot_life, Array.mk [], boot_drawn, 379, os⟩
-- F: objs 104 toks 379
noncomputable def posF : Pos := ⟨48, 0, 48, 6⟩
noncomputable def oG_3 (P : Params) : Obj := ⟨(.type "dict"), none, (.dict (Array.mk [⟨(PyData.keyHash P (sS [95, 95, 110, 97, 109, 101, 95, 95])), (.str (sS [95, 95, 110, 97, 109, 101, 95, 95]) 165), (.str (sS [99, 112, 121, 51, 49, 51, 46, 115, 116, 114, 105, 110, 103, 112, 114, 101, 112]) 317)⟩, ⟨(PyData.keyHash P (sS [95, 95, 100, 111, 99, 95, 95])), (.str (sS [95, 95, 100, 111, 99, 95, 95]) 166), .none⟩, ⟨(PyData.keyHash P (sS [95, 95, 112, 97, 99, 107, 97, 103, 101, 95, 95])), (.str (sS [95, 95, 112, 97, 99, 107, 97, 103, 101, 95, 95]) 167), .none⟩, ⟨(PyData.keyHash P (sS [95, 95, 108, 111, 97, 100, 101, 114, 95, 95])), (.str (sS [95, 95, 108, 111, 97, 100, 101, 114, 95, 95]) 168), (.builtin "__main__.__loader__#opaque")⟩, ⟨(PyData.keyHash P (sS [95, 95, 115, 112, 101, 99, 95, 95])), (.str (sS [95, 95, 115, 112, 101, 99, 95, 95]) 169), .none⟩, ⟨(PyData.keyHash P (sS [95, 95, 97, 110, 110, 111, 116, 97, 116, 105, 111, 110, 115, 95, 95])), (.str (sS [95, 95, 97, 110, 110, 111, 116, 97, 116, 105, 111, 110, 115, 95, 95]) 170), (.ref 6)⟩, ⟨(PyData.keyHash P (sS [95, 95, 98, 117, 105, 108, 116, 105, 110, 115, 95, 95])), (.str (sS [95, 95, 98, 117, 105, 108, 116, 105, 110, 115, 95, 95]) 171), (.ref 4)⟩, ⟨(PyData.keyHash P (sS [95, 95, 102, 105, 108, 101, 95, 95])), (.str (sS [95, 95, 102, 105, 108, 101, 95, 95]) 173), (.str (sS [47, 99, 108, 97, 105, 109, 47, 99, 117, 116, 46, 112, 121]) 172)⟩, ⟨(PyData.keyHash P (sS [95, 95, 99, 97, 99, 104, 101, 100, 95, 95])), (.str (sS [95, 95, 99, 97, 99, 104, 101, 100, 95, 95]) 174), .none⟩, ⟨(PyData.keyHash P (sS [67, 79, 77, 80, 73, 76, 69, 82, 95, 70, 76, 65, 71, 95, 78, 65, 77, 69, 83])), (.str (sS [67, 79, 77, 80, 73, 76, 69, 82, 95, 70, 76, 65, 71, 95, 78, 65, 77, 69, 83]) 219), (.ref 15)⟩, ⟨(PyData.keyHash P (sS [112, 114, 101, 116, 116, 121, 95, 102, 108, 97, 103, 115])), (.str (sS [112, 114, 101, 116, 116, 121, 95, 102, 108, 97, 103, 115]) 229), (.ref 22)⟩, ⟨(PyData.keyHash P (sS [108, 101])), (.str (sS [108, 101]) 239), (.ref 29)⟩, ⟨(PyData.keyHash P (sS [101, 113])), (.str (sS [101, 113]) 247), (.ref 36)⟩, ⟨(PyData.keyHash P (sS [108, 115, 104, 105, 102, 116])), (.str (sS [108, 115, 104, 105, 102, 116]) 255), (.ref 43)⟩, ⟨(PyData.keyHash P (sS [110, 101, 103])), (.str (sS [110, 101, 103]) 262), (.ref 50)⟩, ⟨(PyData.keyHash P (sS [111, 114, 95])), (.str (sS [111, 114, 95]) 270), (.ref 57)⟩, ⟨(PyData.keyHash P (sS [99, 111, 110, 99, 97, 116])), (.str (sS [99, 111, 110, 99, 97, 116]) 279), (.ref 64)⟩, ⟨(PyData.keyHash P (sS [99, 111, 117, 110, 116, 79, 102])), (.str (sS [99, 111, 117, 110, 116, 79, 102]) 289), (.ref 71)⟩, ⟨(PyData.keyHash P (sS [103, 101, 116, 105, 116, 101, 109])), (.str (sS [103, 101, 116, 105, 116, 101, 109]) 297), (.ref 78)⟩, ⟨(PyData.keyHash P (sS [105, 110, 100, 101, 120, 79, 102])), (.str (sS [105, 110, 100, 101, 120, 79, 102]) 307), (.ref 85)⟩, ⟨(PyData.keyHash P (sS [115, 101, 116, 105, 116, 101, 109])), (.str (sS [115, 101, 116, 105, 116, 101, 109]) 316), (.ref 92)⟩, ⟨(PyData.keyHash P (sS [98, 49, 95, 115, 101, 116])), (.str (sS [98, 49, 95, 115, 101, 116]) 378), (.ref 100)⟩, ⟨(PyData.keyHash P (sS [105, 110, 95, 116, 97, 98, 108, 101, 95, 98, 49])), (.str (sS [105, 110, 95, 116, 97, 98, 108, 101, 95, 98, 49]) 385), (.ref 110)⟩]) 23), Array.mk []⟩
noncomputable def oG_12 (P : Params) : Obj := ⟨.none, none, (.fields (Array.mk [(.int 3 0), (.int 0 0), (.ref 21), (.int 16 0), (.int 0 0), (.ref 28), (.int 18 0), (.int 0 0), (.ref 35), (.int 20 0), (.int 0 0), (.ref 42), (.int 22 0), (.int 0 0), (.ref 49), (.int 24 0), (.int 0 0), (.ref 56), (.int 26 0), (.int 0 0), (.ref 63), (.int 31 0), (.int 0 0), (.ref 70), (.int 37 0), (.int 0 0), (.ref 77), (.int 39 0), (.int 0 0), (.ref 84), (.int 45 0), (.int 0 0), (.ref 91), (.int 49 0), (.int 0 0), (.ref 109)])), Array.mk []⟩
noncomputable def oG_104 (P : Params) : Obj := ⟨(.type "tuple"), none, (.seq (Array.mk []) 0), Array.mk []⟩
noncomputable def oG_105 (P : Params) : Obj := ⟨.none, none, (.fields (Array.mk [])), Array.mk []⟩
noncomputable def oG_106 (P : Params) : Obj := ⟨(.type "tuple"), none, (.seq (Array.mk [(.str (sS [99, 111, 100, 101]) 382)]) 0), Array.mk []⟩
noncomputable def oG_107 (P : Params) : Obj := ⟨(.type "tuple"), none, (.seq (Array.mk []) 0), Array.mk []⟩
noncomputable def oG_108 (P : Params) : Obj := ⟨.none, none, (.func ({ name := (sS [105, 110, 95, 116, 97, 98, 108, 101, 95, 98, 49]), qualname := (sS [105, 110, 95, 116, 97, 98, 108, 101, 95, 98, 49]), params := fdP 16, body := .stmts (fdB 16), scope := fdS 16, globals := 0, closure := [], defaults := .none, kwdefaults := .none, doc := .none, pyModule := .none, annotations := none, code := .none, closureTuple := .none, builtins := 0 : FuncData})), Array.mk []⟩
noncomputable def oG_109 (P : Params) : Obj := ⟨(.type "code"), none, (.fields (Array.mk [(.str (sS [105, 110, 95, 116, 97, 98, 108, 101, 95, 98, 49]) 379), (.str (sS [105, 110, 95, 116, 97, 98, 108, 101, 95, 98, 49]) 380), (.str (sS [47, 99, 108, 97, 105, 109, 47, 99, 117, 116, 46, 112, 121]) 381), (.int 49 0), (.int 1 0), (.int 0 0), (.int 0 0), (.int 3 0), (.ref 104), (.bool true), (.int 181 0), (.ref 105), .none, (.ref 106), (.ref 107), (.ref 108), (.int 383 0), (.int 49 0), (.str (sS [47, 99, 108, 97, 105, 109, 47, 99, 117, 116, 46, 112, 121]) 384)])), Array.mk []⟩
noncomputable def oG_110 (P : Params) : Obj := ⟨(.type "function"), none, (.func ({ name := (sS [105, 110, 95, 116, 97, 98, 108, 101, 95, 98, 49]), qualname := (sS [105, 110, 95, 116, 97, 98, 108, 101, 95, 98, 49]), params := fdP 16, body := .stmts (fdB 16), scope := fdS 16, globals := 3, closure := [], defaults := .none, kwdefaults := .none, doc := .none, pyModule := (.str (sS [99, 112, 121, 51, 49, 51, 46, 115, 116, 114, 105, 110, 103, 112, 114, 101, 112]) 317), annotations := none, code := (.ref 109), closureTuple := .none, builtins := 0 : FuncData})), Array.mk []⟩
noncomputable def treeG (P : Params) : BT := (.node (boot_o_0 P) (.node (boot_o_1 P) (.node (oG_3 P) (.node (boot_o_7 P) (.node (oE_15 P) (.node (oE_31 P) (.node (oE_63 P) .nil .nil) (.node (oF_95 P) .nil .nil)) (.node (oE_47 P) (.node (oE_79 P) .nil .nil) .nil)) (.node (oE_23 P) (.node (oE_39 P) (.node (oE_71 P) .nil .nil) (.node (oF_103 P) .nil .nil)) (.node (oE_55 P) (.node (oE_87 P) .nil .nil) .nil))) (.node (oP_11 P) (.node (oE_19 P) (.node (oE_35 P) (.node (oE_67 P) .nil .nil) (.node (oF_99 P) .nil .nil)) (.node (oE_51 P) (.node (oE_83 P) .nil .nil) .nil)) (.node (oE_27 P) (.node (oE_43 P) (.node (oE_75 P) .nil .nil) (.node (oG_107 P) .nil .nil)) (.node (oE_59 P) (.node (oE_91 P) .nil .nil) .nil)))) (.node (boot_o_5 P) (.node (boot_o_9 P) (.node (oE_17 P) (.node (oE_33 P) (.node (oE_65 P) .nil .nil) (.node (oF_97 P) .nil .nil)) (.node (oE_49 P) (.node (oE_81 P) .nil .nil) .nil)) (.node (oE_25 P) (.node (oE_41 P) (.node (oE_73 P) .nil .nil) (.node (oG_105 P) .nil .nil)) (.node (oE_57 P) (.node (oE_89 P) .nil .nil) .nil))) (.node (oP_13 P) (.node (oE_21 P) (.node (oE_37 P) (.node (oE_69 P) .nil .nil) (.node (oF_101 P) .nil .nil)) (.node (oE_53 P) (.node (oE_85 P) .nil .nil) .nil)) (.node (oE_29 P) (.node (oE_45 P) (.node (oE_77 P) .nil .nil) (.node (oG_109 P) .nil .nil)) (.node (oE_61 P) (.node (oF_93 P) .nil .nil) .nil))))) (.node (boot_o_2 P) (.node (boot_o_4 P) (.node (boot_o_8 P) (.node (oE_16 P) (.node (oE_32 P) (.node (oE_64 P) .nil .nil) (.node (oF_96 P) .nil .nil)) (.node (oE_48 P) (.node (oE_80 P) .nil .nil) .nil)) (.node (oE_24 P) (.node (oE_40 P) (.node (oE_72 P) .nil .nil) (.node (oG_104 P) .nil .nil)) (.node (oE_56 P) (.node (oE_88 P) .nil .nil) .nil))) (.node (oG_12 P) (.node (oE_20 P) (.node (oE_36 P) (.node (oE_68 P) .nil .nil) (.node (oF_100 P) .nil .nil)) (.node (oE_52 P) (.node (oE_84 P) .nil .nil) .nil)) (.node (oE_28 P) (.node (oE_44 P) (.node (oE_76 P) .nil .nil) (.node (oG_108 P) .nil .nil)) (.node (oE_60 P) (.node (oE_92 P) .nil .nil) .nil)))) (.node (boot_o_6 P) (.node (boot_o_10 P) (.node (oE_18 P) (.node (oE_34 P) (.node (oE_66 P) .nil .nil) (.node (oF_98 P) .nil .nil)) (.node (oE_50 P) (.node (oE_82 P) .nil .nil) .nil)) (.node (oE_26 P) (.node (oE_42 P) (.node (oE_74 P) .nil .nil) (.node (oG_106 P) .nil .nil)) (.node (oE_58 P) (.node (oE_90 P) .nil .nil) .nil))) (.node (oP_14 P) (.node (oE_22 P) (.node (oE_38 P) (.node (oE_70 P) .nil .nil) (.node (oF_102 P) .nil .nil)) (.node (oE_54 P) (.node (oE_86 P) .nil .nil) .nil)) (.node (oE_30 P) (.node (oE_46 P) (.node (oE_78 P) .nil .nil) (.node (oG_110 P) .nil .nil)) (.node (oE_62 P) (.node (oF_94 P) .nil .nil) .nil))))))
noncomputable def SG (P : Params) (os : OsState) : SharedT := ⟨treeG P, 111, boot_life, Array.mk [], boot_drawn, 386, os⟩
-- G: objs 111 toks 386
noncomputable def posG : Pos := ⟨49, 0, 50, 30⟩
noncomputable def treeH0 (P : Params) : BT := (.node (boot_o_0 P) (.node (boot_o_1 P) (.node (oG_3 P) (.node (boot_o_7 P) (.node (oE_15 P) (.node (oE_31 P) (.node (oE_63 P) (.node (o3 16) .nil .nil) .nil) (.node (oF_95 P) .nil .nil)) (.node (oE_47 P) (.node (oE_79 P) (.node (o3 32) .nil .nil) .nil) (.node (o3 0) .nil .nil))) (.node (oE_23 P) (.node (oE_39 P) (.node (oE_71 P) (.node (o3 24) .nil .nil) .nil) (.node (oF_103 P) .nil .nil)) (.node (oE_55 P) (.node (oE_87 P) .nil .nil) (.node (o3 8) .nil .nil)))) (.node (oP_11 P) (.node (oE_19 P) (.node (oE_35 P) (.node (oE_67 P) (.node (o3 20) .nil .nil) .nil) (.node (oF_99 P) .nil .nil)) (.node (oE_51 P) (.node (oE_83 P) (.node (o3 36) .nil .nil) .nil) (.node (o3 4) .nil .nil))) (.node (oE_27 P) (.node (oE_43 P) (.node (oE_75 P) (.node (o3 28) .nil .nil) .nil) (.node (oG_107 P) .nil .nil)) (.node (oE_59 P) (.node (oE_91 P) .nil .nil) (.node (o3 12) .nil .nil))))) (.node (boot_o_5 P) (.node (boot_o_9 P) (.node (oE_17 P) (.node (oE_33 P) (.node (oE_65 P) (.node (o3 18) .nil .nil) .nil) (.node (oF_97 P) .nil .nil)) (.node (oE_49 P) (.node (oE_81 P) (.node (o3 34) .nil .nil) .nil) (.node (o3 2) .nil .nil))) (.node (oE_25 P) (.node (oE_41 P) (.node (oE_73 P) (.node (o3 26) .nil .nil) .nil) (.node (oG_105 P) .nil .nil)) (.node (oE_57 P) (.node (oE_89 P) .nil .nil) (.node (o3 10) .nil .nil)))) (.node (oP_13 P) (.node (oE_21 P) (.node (oE_37 P) (.node (oE_69 P) (.node (o3 22) .nil .nil) .nil) (.node (oF_101 P) .nil .nil)) (.node (oE_53 P) (.node (oE_85 P) (.node (o3 38) .nil .nil) .nil) (.node (o3 6) .nil .nil))) (.node (oE_29 P) (.node (oE_45 P) (.node (oE_77 P) (.node (o3 30) .nil .nil) .nil) (.node (oG_109 P) .nil .nil)) (.node (oE_61 P) (.node (oF_93 P) .nil .nil) (.node (o3 14) .nil .nil)))))) (.node (boot_o_2 P) (.node (boot_o_4 P) (.node (boot_o_8 P) (.node (oE_16 P) (.node (oE_32 P) (.node (oE_64 P) (.node (o3 17) .nil .nil) .nil) (.node (oF_96 P) .nil .nil)) (.node (oE_48 P) (.node (oE_80 P) (.node (o3 33) .nil .nil) .nil) (.node (o3 1) .nil .nil))) (.node (oE_24 P) (.node (oE_40 P) (.node (oE_72 P) (.node (o3 25) .nil .nil) .nil) (.node (oG_104 P) .nil .nil)) (.node (oE_56 P) (.node (oE_88 P) .nil .nil) (.node (o3 9) .nil .nil)))) (.node (oG_12 P) (.node (oE_20 P) (.node (oE_36 P) (.node (oE_68 P) (.node (o3 21) .nil .nil) .nil) (.node (oF_100 P) .nil .nil)) (.node (oE_52 P) (.node (oE_84 P) (.node (o3 37) .nil .nil) .nil) (.node (o3 5) .nil .nil))) (.node (oE_28 P) (.node (oE_44 P) (.node (oE_76 P) (.node (o3 29) .nil .nil) .nil) (.node (oG_108 P) .nil .nil)) (.node (oE_60 P) (.node (oE_92 P) .nil .nil) (.node (o3 13) .nil .nil))))) (.node (boot_o_6 P) (.node (boot_o_10 P) (.node (oE_18 P) (.node (oE_34 P) (.node (oE_66 P) (.node (o3 19) .nil .nil) .nil) (.node (oF_98 P) .nil .nil)) (.node (oE_50 P) (.node (oE_82 P) (.node (o3 35) .nil .nil) .nil) (.node (o3 3) .nil .nil))) (.node (oE_26 P) (.node (oE_42 P) (.node (oE_74 P) (.node (o3 27) .nil .nil) .nil) (.node (oG_106 P) .nil .nil)) (.node (oE_58 P) (.node (oE_90 P) .nil .nil) (.node (o3 11) .nil .nil)))) (.node (oP_14 P) (.node (oE_22 P) (.node (oE_38 P) (.node (oE_70 P) (.node (o3 23) .nil .nil) .nil) (.node (oF_102 P) .nil .nil)) (.node (oE_54 P) (.node (oE_86 P) .nil .nil) (.node (o3 7) .nil .nil))) (.node (oE_30 P) (.node (oE_46 P) (.node (oE_78 P) (.node (o3 31) .nil .nil) .nil) (.node (oG_110 P) .nil .nil)) (.node (oE_62 P) (.node (oF_94 P) .nil .nil) (.node (o3 15) .nil .nil)))))))
noncomputable def SH0 (P : Params) (os : OsState) : SharedT := ⟨treeH0 P, 150, boot_life, Array.mk [], boot_drawn, 2336, os⟩
noncomputable def oH_3 (P : Params) : Obj := ⟨(.type "dict"), none, (.dict (Array.mk [⟨(PyData.keyHash P (sS [95, 95, 110, 97, 109, 101, 95, 95])), (.str (sS [95, 95, 110, 97, 109, 101, 95, 95]) 165), (.str (sS [99, 112, 121, 51, 49, 51, 46, 115, 116, 114, 105, 110, 103, 112, 114, 101, 112]) 317)⟩, ⟨(PyData.keyHash P (sS [95, 95, 100, 111, 99, 95, 95])), (.str (sS [95, 95, 100, 111, 99, 95, 95]) 166), .none⟩, ⟨(PyData.keyHash P (sS [95, 95, 112, 97, 99, 107, 97, 103, 101, 95, 95])), (.str (sS [95, 95, 112, 97, 99, 107, 97, 103, 101, 95, 95]) 167), .none⟩, ⟨(PyData.keyHash P (sS [95, 95, 108, 111, 97, 100, 101, 114, 95, 95])), (.str (sS [95, 95, 108, 111, 97, 100, 101, 114, 95, 95]) 168), (.builtin "__main__.__loader__#opaque")⟩, ⟨(PyData.keyHash P (sS [95, 95, 115, 112, 101, 99, 95, 95])), (.str (sS [95, 95, 115, 112, 101, 99, 95, 95]) 169), .none⟩, ⟨(PyData.keyHash P (sS [95, 95, 97, 110, 110, 111, 116, 97, 116, 105, 111, 110, 115, 95, 95])), (.str (sS [95, 95, 97, 110, 110, 111, 116, 97, 116, 105, 111, 110, 115, 95, 95]) 170), (.ref 6)⟩, ⟨(PyData.keyHash P (sS [95, 95, 98, 117, 105, 108, 116, 105, 110, 115, 95, 95])), (.str (sS [95, 95, 98, 117, 105, 108, 116, 105, 110, 115, 95, 95]) 171), (.ref 4)⟩, ⟨(PyData.keyHash P (sS [95, 95, 102, 105, 108, 101, 95, 95])), (.str (sS [95, 95, 102, 105, 108, 101, 95, 95]) 173), (.str (sS [47, 99, 108, 97, 105, 109, 47, 99, 117, 116, 46, 112, 121]) 172)⟩, ⟨(PyData.keyHash P (sS [95, 95, 99, 97, 99, 104, 101, 100, 95, 95])), (.str (sS [95, 95, 99, 97, 99, 104, 101, 100, 95, 95]) 174), .none⟩, ⟨(PyData.keyHash P (sS [67, 79, 77, 80, 73, 76, 69, 82, 95, 70, 76, 65, 71, 95, 78, 65, 77, 69, 83])), (.str (sS [67, 79, 77, 80, 73, 76, 69, 82, 95, 70, 76, 65, 71, 95, 78, 65, 77, 69, 83]) 219), (.ref 15)⟩, ⟨(PyData.keyHash P (sS [112, 114, 101, 116, 116, 121, 95, 102, 108, 97, 103, 115])), (.str (sS [112, 114, 101, 116, 116, 121, 95, 102, 108, 97, 103, 115]) 229), (.ref 22)⟩, ⟨(PyData.keyHash P (sS [108, 101])), (.str (sS [108, 101]) 239), (.ref 29)⟩, ⟨(PyData.keyHash P (sS [101, 113])), (.str (sS [101, 113]) 247), (.ref 36)⟩, ⟨(PyData.keyHash P (sS [108, 115, 104, 105, 102, 116])), (.str (sS [108, 115, 104, 105, 102, 116]) 255), (.ref 43)⟩, ⟨(PyData.keyHash P (sS [110, 101, 103])), (.str (sS [110, 101, 103]) 262), (.ref 50)⟩, ⟨(PyData.keyHash P (sS [111, 114, 95])), (.str (sS [111, 114, 95]) 270), (.ref 57)⟩, ⟨(PyData.keyHash P (sS [99, 111, 110, 99, 97, 116])), (.str (sS [99, 111, 110, 99, 97, 116]) 279), (.ref 64)⟩, ⟨(PyData.keyHash P (sS [99, 111, 117, 110, 116, 79, 102])), (.str (sS [99, 111, 117, 110, 116, 79, 102]) 289), (.ref 71)⟩, ⟨(PyData.keyHash P (sS [103, 101, 116, 105, 116, 101, 109])), (.str (sS [103, 101, 116, 105, 116, 101, 109]) 297), (.ref 78)⟩, ⟨(PyData.keyHash P (sS [105, 110, 100, 101, 120, 79, 102])), (.str (sS [105, 110, 100, 101, 120, 79, 102]) 307), (.ref 85)⟩, ⟨(PyData.keyHash P (sS [115, 101, 116, 105, 116, 101, 109])), (.str (sS [115, 101, 116, 105, 116, 101, 109]) 316), (.ref 92)⟩, ⟨(PyData.keyHash P (sS [98, 49, 95, 115, 101, 116])), (.str (sS [98, 49, 95, 115, 101, 116]) 378), (.ref 100)⟩, ⟨(PyData.keyHash P (sS [105, 110, 95, 116, 97, 98, 108, 101, 95, 98, 49])), (.str (sS [105, 110, 95, 116, 97, 98, 108, 101, 95, 98, 49]) 385), (.ref 110)⟩, ⟨(PyData.keyHash P (sS [98, 51, 95, 101, 120, 99, 101, 112, 116, 105, 111, 110, 115])), (.str (sS [98, 51, 95, 101, 120, 99, 101, 112, 116, 105, 111, 110, 115]) 2336), (.ref 111)⟩]) 24), Array.mk []⟩
noncomputable def treeH (P : Params) : BT := (.node (boot_o_0 P) (.node (boot_o_1 P) (.node (oH_3 P) (.node (boot_o_7 P) (.node (oE_15 P) (.node (oE_31 P) (.node (oE_63 P) (.node (o3 16) .nil .nil) .nil) (.node (oF_95 P) .nil .nil)) (.node (oE_47 P) (.node (oE_79 P) (.node (o3 32) .nil .nil) .nil) (.node (o3 0) .nil .nil))) (.node (oE_23 P) (.node (oE_39 P) (.node (oE_71 P) (.node (o3 24) .nil .nil) .nil) (.node (oF_103 P) .nil .nil)) (.node (oE_55 P) (.node (oE_87 P) .nil .nil) (.node (o3 8) .nil .nil)))) (.node (oP_11 P) (.node (oE_19 P) (.node (oE_35 P) (.node (oE_67 P) (.node (o3 20) .nil .nil) .nil) (.node (oF_99 P) .nil .nil)) (.node (oE_51 P) (.node (oE_83 P) (.node (o3 36) .nil .nil) .nil) (.node (o3 4) .nil .nil))) (.node (oE_27 P) (.node (oE_43 P) (.node (oE_75 P) (.node (o3 28) .nil .nil) .nil) (.node (oG_107 P) .nil .nil)) (.node (oE_59 P) (.node (oE_91 P) .nil .nil) (.node (o3 12) .nil .nil))))) (.node (boot_o_5 P) (.node (boot_o_9 P) (.node (oE_17 P) (.node (oE_33 P) (.node (oE_65 P) (.node (o3 18) .nil .nil) .nil) (.node (oF_97 P) .nil .nil)) (.node (oE_49 P) (.node (oE_81 P) (.node (o3 34) .nil .nil) .nil) (.node (o3 2) .nil .nil))) (.node (oE_25 P) (.node (oE_41 P) (.node (oE_73 P) (.node (o3 26) .nil .nil) .nil) (.node (oG_105 P) .nil .nil)) (.node (oE_57 P) (.node (oE_89 P) .nil .nil) (.node (o3 10) .nil .nil)))) (.node (oP_13 P) (.node (oE_21 P) (.node (oE_37 P) (.node (oE_69 P) (.node (o3 22) .nil .nil) .nil) (.node (oF_101 P) .nil .nil)) (.node (oE_53 P) (.node (oE_85 P) (.node (o3 38) .nil .nil) .nil) (.node (o3 6) .nil .nil))) (.node (oE_29 P) (.node (oE_45 P) (.node (oE_77 P) (.node (o3 30) .nil .nil) .nil) (.node (oG_109 P) .nil .nil)) (.node (oE_61 P) (.node (oF_93 P) .nil .nil) (.node (o3 14) .nil .nil)))))) (.node (boot_o_2 P) (.node (boot_o_4 P) (.node (boot_o_8 P) (.node (oE_16 P) (.node (oE_32 P) (.node (oE_64 P) (.node (o3 17) .nil .nil) .nil) (.node (oF_96 P) .nil .nil)) (.node (oE_48 P) (.node (oE_80 P) (.node (o3 33) .nil .nil) .nil) (.node (o3 1) .nil .nil))) (.node (oE_24 P) (.node (oE_40 P) (.node (oE_72 P) (.node (o3 25) .nil .nil) .nil) (.node (oG_104 P) .nil .nil)) (.node (oE_56 P) (.node (oE_88 P) .nil .nil) (.node (o3 9) .nil .nil)))) (.node (oG_12 P) (.node (oE_20 P) (.node (oE_36 P) (.node (oE_68 P) (.node (o3 21) .nil .nil) .nil) (.node (oF_100 P) .nil .nil)) (.node (oE_52 P) (.node (oE_84 P) (.node (o3 37) .nil .nil) .nil) (.node (o3 5) .nil .nil))) (.node (oE_28 P) (.node (oE_44 P) (.node (oE_76 P) (.node (o3 29) .nil .nil) .nil) (.node (oG_108 P) .nil .nil)) (.node (oE_60 P) (.node (oE_92 P) .nil .nil) (.node (o3 13) .nil .nil))))) (.node (boot_o_6 P) (.node (boot_o_10 P) (.node (oE_18 P) (.node (oE_34 P) (.node (oE_66 P) (.node (o3 19) .nil .nil) .nil) (.node (oF_98 P) .nil .nil)) (.node (oE_50 P) (.node (oE_82 P) (.node (o3 35) .nil .nil) .nil) (.node (o3 3) .nil .nil))) (.node (oE_26 P) (.node (oE_42 P) (.node (oE_74 P) (.node (o3 27) .nil .nil) .nil) (.node (oG_106 P) .nil .nil)) (.node (oE_58 P) (.node (oE_90 P) .nil .nil) (.node (o3 11) .nil .nil)))) (.node (oP_14 P) (.node (oE_22 P) (.node (oE_38 P) (.node (oE_70 P) (.node (o3 23) .nil .nil) .nil) (.node (oF_102 P) .nil .nil)) (.node (oE_54 P) (.node (oE_86 P) .nil .nil) (.node (o3 7) .nil .nil))) (.node (oE_30 P) (.node (oE_46 P) (.node (oE_78 P) (.node (o3 31) .nil .nil) .nil) (.node (oG_110 P) .nil .nil)) (.node (oE_62 P) (.node (oF_94 P) .nil .nil) (.node (o3 15) .nil .nil)))))))
noncomputable def SH (P : Params) (os : OsState) : SharedT := ⟨treeH P, 150, boot_life, Array.mk [], boot_drawn, 2337, os⟩
-- H: objs 150 toks 2337
noncomputable def posH : Pos := ⟨51, 0, 51, 13⟩
noncomputable def oI_3 (P : Params) : Obj := ⟨(.type "dict"), none, (.dict (Array.mk [⟨(PyData.keyHash P (sS [95, 95, 110, 97, 109, 101, 95, 95])), (.str (sS [95, 95, 110, 97, 109, 101, 95, 95]) 165), (.str (sS [108, 97, 119, 95, 116, 97, 48, 48, 55, 55, 95, 48, 49]) 2388)⟩, ⟨(PyData.keyHash P (sS [95, 95, 100, 111, 99, 95, 95])), (.str (sS [95, 95, 100, 111, 99, 95, 95]) 166), .none⟩, ⟨(PyData.keyHash P (sS [95, 95, 112, 97, 99, 107, 97, 103, 101, 95, 95])), (.str (sS [95, 95, 112, 97, 99, 107, 97, 103, 101, 95, 95]) 167), .none⟩, ⟨(PyData.keyHash P (sS [95, 95, 108, 111, 97, 100, 101, 114, 95, 95])), (.str (sS [95, 95, 108, 111, 97, 100, 101, 114, 95, 95]) 168), (.builtin "__main__.__loader__#opaque")⟩, ⟨(PyData.keyHash P (sS [95, 95, 115, 112, 101, 99, 95, 95])), (.str (sS [95, 95, 115, 112, 101, 99, 95, 95]) 169), .none⟩, ⟨(PyData.keyHash P (sS [95, 95, 97, 110, 110, 111, 116, 97, 116, 105, 111, 110, 115, 95, 95])), (.str (sS [95, 95, 97, 110, 110, 111, 116, 97, 116, 105, 111, 110, 115, 95, 95]) 170), (.ref 6)⟩, ⟨(PyData.keyHash P (sS [95, 95, 98, 117, 105, 108, 116, 105, 110, 115, 95, 95])), (.str (sS [95, 95, 98, 117, 105, 108, 116, 105, 110, 115, 95, 95]) 171), (.ref 4)⟩, ⟨(PyData.keyHash P (sS [95, 95, 102, 105, 108, 101, 95, 95])), (.str (sS [95, 95, 102, 105, 108, 101, 95, 95]) 173), (.str (sS [47, 99, 108, 97, 105, 109, 47, 99, 117, 116, 46, 112, 121]) 172)⟩, ⟨(PyData.keyHash P (sS [95, 95, 99, 97, 99, 104, 101, 100, 95, 95])), (.str (sS [95, 95, 99, 97, 99, 104, 101, 100, 95, 95]) 174), .none⟩, ⟨(PyData.keyHash P (sS [67, 79, 77, 80, 73, 76, 69, 82, 95, 70, 76, 65, 71, 95, 78, 65, 77, 69, 83])), (.str (sS [67, 79, 77, 80, 73, 76, 69, 82, 95, 70, 76, 65, 71, 95, 78, 65, 77, 69, 83]) 219), (.ref 15)⟩, ⟨(PyData.keyHash P (sS [112, 114, 101, 116, 116, 121, 95, 102, 108, 97, 103, 115])), (.str (sS [112, 114, 101, 116, 116, 121, 95, 102, 108, 97, 103, 115]) 229), (.ref 22)⟩, ⟨(PyData.keyHash P (sS [108, 101])), (.str (sS [108, 101]) 239), (.ref 29)⟩, ⟨(PyData.keyHash P (sS [101, 113])), (.str (sS [101, 113]) 247), (.ref 36)⟩, ⟨(PyData.keyHash P (sS [108, 115, 104, 105, 102, 116])), (.str (sS [108, 115, 104, 105, 102, 116]) 255), (.ref 43)⟩, ⟨(PyData.keyHash P (sS [110, 101, 103])), (.str (sS [110, 101, 103]) 262), (.ref 50)⟩, ⟨(PyData.keyHash P (sS [111, 114, 95])), (.str (sS [111, 114, 95]) 270), (.ref 57)⟩, ⟨(PyData.keyHash P (sS [99, 111, 110, 99, 97, 116])), (.str (sS [99, 111, 110, 99, 97, 116]) 279), (.ref 64)⟩, ⟨(PyData.keyHash P (sS [99, 111, 117, 110, 116, 79, 102])), (.str (sS [99, 111, 117, 110, 116, 79, 102]) 289), (.ref 71)⟩, ⟨(PyData.keyHash P (sS [103, 101, 116, 105, 116, 101, 109])), (.str (sS [103, 101, 116, 105, 116, 101, 109]) 297), (.ref 78)⟩, ⟨(PyData.keyHash P (sS [105, 110, 100, 101, 120, 79, 102])), (.str (sS [105, 110, 100, 101, 120, 79, 102]) 307), (.ref 85)⟩, ⟨(PyData.keyHash P (sS [115, 101, 116, 105, 116, 101, 109])), (.str (sS [115, 101, 116, 105, 116, 101, 109]) 316), (.ref 92)⟩, ⟨(PyData.keyHash P (sS [98, 49, 95, 115, 101, 116])), (.str (sS [98, 49, 95, 115, 101, 116]) 378), (.ref 100)⟩, ⟨(PyData.keyHash P (sS [105, 110, 95, 116, 97, 98, 108, 101, 95, 98, 49])), (.str (sS [105, 110, 95, 116, 97, 98, 108, 101, 95, 98, 49]) 385), (.ref 110)⟩, ⟨(PyData.keyHash P (sS [98, 51, 95, 101, 120, 99, 101, 112, 116, 105, 111, 110, 115])), (.str (sS [98, 51, 95, 101, 120, 99, 101, 112, 116, 105, 111, 110, 115]) 2336), (.ref 111)⟩, ⟨(PyData.keyHash P (sS [109, 97, 112, 95, 116, 97, 98, 108, 101, 95, 98, 51])), (.str (sS [109, 97, 112, 95, 116, 97, 98, 108, 101, 95, 98, 51]) 2344), (.ref 156)⟩, ⟨(PyData.keyHash P (sS [105, 110, 95, 116, 97, 98, 108, 101, 95, 99, 49, 49])), (.str (sS [105, 110, 95, 116, 97, 98, 108, 101, 95, 99, 49, 49]) 2351), (.ref 163)⟩, ⟨(PyData.keyHash P (sS [95, 77, 65, 88, 95, 83, 84, 82, 73, 78, 71, 95, 83, 73, 90, 69])), (.str (sS [95, 77, 65, 88, 95, 83, 84, 82, 73, 78, 71, 95, 83, 73, 90, 69]) 2355), (.int 40 2354)⟩, ⟨(PyData.keyHash P (sS [95, 77, 79, 86, 69, 95, 67, 79, 83, 84])), (.str (sS [95, 77, 79, 86, 69, 95, 67, 79, 83, 84]) 2357), (.int 2 2356)⟩, ⟨(PyData.keyHash P (sS [95, 67, 65, 83, 69, 95, 67, 79, 83, 84])), (.str (sS [95, 67, 65, 83, 69, 95, 67, 79, 83, 84]) 2359), (.int 1 2358)⟩, ⟨(PyData.keyHash P (sS [95, 115, 117, 98, 115, 116, 105, 116, 117, 116, 105, 111, 110, 95, 99, 111, 115, 116])), (.str (sS [95, 115, 117, 98, 115, 116, 105, 116, 117, 116, 105, 111, 110, 95, 99, 111, 115, 116]) 2367), (.ref 170)⟩, ⟨(PyData.keyHash P (sS [95, 108, 101, 118, 101, 110, 115, 104, 116, 101, 105, 110, 95, 100, 105, 115, 116, 97, 110, 99, 101])), (.str (sS [95, 108, 101, 118, 101, 110, 115, 104, 116, 101, 105, 110, 95, 100, 105, 115, 116, 97, 110, 99, 101]) 2387), (.ref 177)⟩, ⟨(PyData.keyHash P (sS [95, 108, 97, 119, 95, 115, 108, 105, 112])), (.str (sS [95, 108, 97, 119, 95, 115, 108, 105, 112]) 2399), (.ref 184)⟩, ⟨(PyData.keyHash P (sS [95, 108, 97, 119, 95, 100, 114, 97, 119, 110])), (.str (sS [95, 108, 97, 119, 95, 100, 114, 97, 119, 110]) 2415), (.ref 191)⟩, ⟨(PyData.keyHash P (sS [95, 108, 97, 119, 95, 116, 121, 112, 101, 100])), (.str (sS [95, 108, 97, 119, 95, 116, 121, 112, 101, 100]) 2429), (.ref 198)⟩, ⟨(PyData.keyHash P (sS [95, 108, 97, 119, 95, 104, 101, 97, 114, 100])), (.str (sS [95, 108, 97, 119, 95, 104, 101, 97, 114, 100]) 2435), (.ref 203)⟩, ⟨(PyData.keyHash P (sS [95, 108, 97, 119, 95, 98, 121, 95, 115, 105, 120, 116, 101, 101, 110, 115])), (.str (sS [95, 108, 97, 119, 95, 98, 121, 95, 115, 105, 120, 116, 101, 101, 110, 115]) 2444), (.ref 210)⟩, ⟨(PyData.keyHash P (sS [108, 97, 119])), (.str (sS [108, 97, 119]) 2450), (.ref 215)⟩]) 37), Array.mk []⟩
noncomputable def oI_12 (P : Params) : Obj := ⟨.none, none, (.fields (Array.mk [(.int 3 0), (.int 0 0), (.ref 21), (.int 16 0), (.int 0 0), (.ref 28), (.int 18 0), (.int 0 0), (.ref 35), (.int 20 0), (.int 0 0), (.ref 42), (.int 22 0), (.int 0 0), (.ref 49), (.int 24 0), (.int 0 0), (.ref 56), (.int 26 0), (.int 0 0), (.ref 63), (.int 31 0), (.int 0 0), (.ref 70), (.int 37 0), (.int 0 0), (.ref 77), (.int 39 0), (.int 0 0), (.ref 84), (.int 45 0), (.int 0 0), (.ref 91), (.int 49 0), (.int 0 0), (.ref 109), (.int 52 0), (.int 0 0), (.ref 155), (.int 57 0), (.int 0 0), (.ref 162), (.int 63 0), (.int 0 0), (.ref 169), (.int 69 0), (.int 0 0), (.ref 176), (.int 108 0), (.int 0 0), (.ref 183), (.int 118 0), (.int 0 0), (.ref 190), (.int 144 0), (.int 0 0), (.ref 197), (.int 160 0), (.int 0 0), (.ref 202), (.int 170 0), (.int 0 0), (.ref 209), (.int 174 0), (.int 0 0), (.ref 214)])), Array.mk []⟩
noncomputable def oI_150 (P : Params) : Obj := ⟨(.type "tuple"), none, (.seq (Array.mk []) 0), Array.mk []⟩
noncomputable def oI_151 (P : Params) : Obj := ⟨.none, none, (.fields (Array.mk [])), Array.mk []⟩
noncomputable def oI_152 (P : Params) : Obj := ⟨(.type "tuple"), none, (.seq (Array.mk [(.str (sS [99, 111, 100, 101]) 2340), (.str (sS [114]) 2341)]) 0), Array.mk []⟩
noncomputable def oI_153 (P : Params) : Obj := ⟨(.type "tuple"), none, (.seq (Array.mk []) 0), Array.mk []⟩
noncomputable def oI_154 (P : Params) : Obj := ⟨.none, none, (.func ({ name := (sS [109, 97, 112, 95, 116, 97, 98, 108, 101, 95, 98, 51]), qualname := (sS [109, 97, 112, 95, 116, 97, 98, 108, 101, 95, 98, 51]), params := fdP 18, body := .stmts (fdB 18), scope := fdS 18, globals := 0, closure := [], defaults := .none, kwdefaults := .none, doc := .none, pyModule := .none, annotations := none, code := .none, closureTuple := .none, builtins := 0 : FuncData})), Array.mk []⟩
noncomputable def oI_155 (P : Params) : Obj := ⟨(.type "code"), none, (.fields (Array.mk [(.str (sS [109, 97, 112, 95, 116, 97, 98, 108, 101, 95, 98, 51]) 2337), (.str (sS [109, 97, 112, 95, 116, 97, 98, 108, 101, 95, 98, 51]) 2338), (.str (sS [47, 99, 108, 97, 105, 109, 47, 99, 117, 116, 46, 112, 121]) 2339), (.int 52 0), (.int 1 0), (.int 0 0), (.int 0 0), (.int 3 0), (.ref 150), (.bool true), (.int 181 0), (.ref 151), .none, (.ref 152), (.ref 153), (.ref 154), (.int 2342 0), (.int 52 0), (.str (sS [47, 99, 108, 97, 105, 109, 47, 99, 117, 116, 46, 112, 121]) 2343)])), Array.mk []⟩
noncomputable def oI_156 (P : Params) : Obj := ⟨(.type "function"), none, (.func ({ name := (sS [109, 97, 112, 95, 116, 97, 98, 108, 101, 95, 98, 51]), qualname := (sS [109, 97, 112, 95, 116, 97, 98, 108, 101, 95, 98, 51]), params := fdP 18, body := .stmts (fdB 18), scope := fdS 18, globals := 3, closure := [], defaults := .none, kwdefaults := .none, doc := .none, pyModule := (.str (sS [99, 112, 121, 51, 49, 51, 46, 115, 116, 114, 105, 110, 103, 112, 114, 101, 112]) 317), annotations := none, code := (.ref 155), closureTuple := .none, builtins := 0 : FuncData})), Array.mk []⟩
noncomputable def oI_157 (P : Params) : Obj := ⟨(.type "tuple"), none, (.seq (Array.mk []) 0), Array.mk []⟩
noncomputable def oI_158 (P : Params) : Obj := ⟨.none, none, (.fields (Array.mk [])), Array.mk []⟩
noncomputable def oI_159 (P : Params) : Obj := ⟨(.type "tuple"), none, (.seq (Array.mk [(.str (sS [99, 111, 100, 101]) 2348)]) 0), Array.mk []⟩
noncomputable def oI_160 (P : Params) : Obj := ⟨(.type "tuple"), none, (.seq (Array.mk []) 0), Array.mk []⟩
noncomputable def oI_161 (P : Params) : Obj := ⟨.none, none, (.func ({ name := (sS [105, 110, 95, 116, 97, 98, 108, 101, 95, 99, 49, 49]), qualname := (sS [105, 110, 95, 116, 97, 98, 108, 101, 95, 99, 49, 49]), params := fdP 19, body := .stmts (fdB 19), scope := fdS 19, globals := 0, closure := [], defaults := .none, kwdefaults := .none, doc := .none, pyModule := .none, annotations := none, code := .none, closureTuple := .none, builtins := 0 : FuncData})), Array.mk []⟩
noncomputable def oI_162 (P : Params) : Obj := ⟨(.type "code"), none, (.fields (Array.mk [(.str (sS [105, 110, 95, 116, 97, 98, 108, 101, 95, 99, 49, 49]) 2345), (.str (sS [105, 110, 95, 116, 97, 98, 108, 101, 95, 99, 49, 49]) 2346), (.str (sS [47, 99, 108, 97, 105, 109, 47, 99, 117, 116, 46, 112, 121]) 2347), (.int 57 0), (.int 1 0), (.int 0 0), (.int 0 0), (.int 3 0), (.ref 157), (.bool true), (.int 181 0), (.ref 158), .none, (.ref 159), (.ref 160), (.ref 161), (.int 2349 0), (.int 57 0), (.str (sS [47, 99, 108, 97, 105, 109, 47, 99, 117, 116, 46, 112, 121]) 2350)])), Array.mk []⟩
noncomputable def oI_163 (P : Params) : Obj := ⟨(.type "function"), none, (.func ({ name := (sS [105, 110, 95, 116, 97, 98, 108, 101, 95, 99, 49, 49]), qualname := (sS [105, 110, 95, 116, 97, 98, 108, 101, 95, 99, 49, 49]), params := fdP 19, body := .stmts (fdB 19), scope := fdS 19, globals := 3, closure := [], defaults := .none, kwdefaults := .none, doc := .none, pyModule := (.str (sS [99, 112, 121, 51, 49, 51, 46, 115, 116, 114, 105, 110, 103, 112, 114, 101, 112]) 317), annotations := none, code := (.ref 162), closureTuple := .none, builtins := 0 : FuncData})), Array.mk []⟩
noncomputable def oI_164 (P : Params) : Obj := ⟨(.type "tuple"), none, (.seq (Array.mk []) 0), Array.mk []⟩
noncomputable def oI_165 (P : Params) : Obj := ⟨.none, none, (.fields (Array.mk [])), Array.mk []⟩
noncomputable def oI_166 (P : Params) : Obj := ⟨(.type "tuple"), none, (.seq (Array.mk [(.str (sS [99, 104, 95, 97]) 2363), (.str (sS [99, 104, 95, 98]) 2364)]) 0), Array.mk []⟩
noncomputable def oI_167 (P : Params) : Obj := ⟨(.type "tuple"), none, (.seq (Array.mk []) 0), Array.mk []⟩
noncomputable def oI_168 (P : Params) : Obj := ⟨.none, none, (.func ({ name := (sS [95, 115, 117, 98, 115, 116, 105, 116, 117, 116, 105, 111, 110, 95, 99, 111, 115, 116]), qualname := (sS [95, 115, 117, 98, 115, 116, 105, 116, 117, 116, 105, 111, 110, 95, 99, 111, 115, 116]), params := fdP 24, body := .stmts (fdB 24), scope := fdS 24, globals := 0, closure := [], defaults := .none, kwdefaults := .none, doc := .none, pyModule := .none, annotations := none, code := .none, closureTuple := .none, builtins := 0 : FuncData})), Array.mk []⟩
noncomputable def oI_169 (P : Params) : Obj := ⟨(.type "code"), none, (.fields (Array.mk [(.str (sS [95, 115, 117, 98, 115, 116, 105, 116, 117, 116, 105, 111, 110, 95, 99, 111, 115, 116]) 2360), (.str (sS [95, 115, 117, 98, 115, 116, 105, 116, 117, 116, 105, 111, 110, 95, 99, 111, 115, 116]) 2361), (.str (sS [47, 99, 108, 97, 105, 109, 47, 99, 117, 116, 46, 112, 121]) 2362), (.int 63 0), (.int 2 0), (.int 0 0), (.int 0 0), (.int 3 0), (.ref 164), (.bool true), (.int 181 0), (.ref 165), .none, (.ref 166), (.ref 167), (.ref 168), (.int 2365 0), (.int 63 0), (.str (sS [47, 99, 108, 97, 105, 109, 47, 99, 117, 116, 46, 112, 121]) 2366)])), Array.mk []⟩
noncomputable def oI_170 (P : Params) : Obj := ⟨(.type "function"), none, (.func ({ name := (sS [95, 115, 117, 98, 115, 116, 105, 116, 117, 116, 105, 111, 110, 95, 99, 111, 115, 116]), qualname := (sS [95, 115, 117, 98, 115, 116, 105, 116, 117, 116, 105, 111, 110, 95, 99, 111, 115, 116]), params := fdP 24, body := .stmts (fdB 24), scope := fdS 24, globals := 3, closure := [], defaults := .none, kwdefaults := .none, doc := .none, pyModule := (.str (sS [99, 112, 121, 51, 49, 51, 46, 116, 114, 97, 99, 101, 98, 97, 99, 107]) 2352), annotations := none, code := (.ref 169), closureTuple := .none, builtins := 0 : FuncData})), Array.mk []⟩
noncomputable def oI_171 (P : Params) : Obj := ⟨(.type "tuple"), none, (.seq (Array.mk []) 0), Array.mk []⟩
noncomputable def oI_172 (P : Params) : Obj := ⟨.none, none, (.fields (Array.mk [])), Array.mk []⟩
noncomputable def oI_173 (P : Params) : Obj := ⟨(.type "tuple"), none, (.seq (Array.mk [(.str (sS [97]) 2371), (.str (sS [98]) 2372), (.str (sS [109, 97, 120, 95, 99, 111, 115, 116]) 2373), (.str (sS [112, 114, 101]) 2374), (.str (sS [112, 111, 115, 116]) 2375), (.str (sS [114, 111, 119]) 2376), (.str (sS [114, 101, 115, 117, 108, 116]) 2377), (.str (sS [98, 105, 110, 100, 101, 120]) 2378), (.str (sS [98, 99, 104, 97, 114]) 2379), (.str (sS [100, 105, 115, 116, 97, 110, 99, 101]) 2380), (.str (sS [109, 105, 110, 105, 109, 117, 109]) 2381), (.str (sS [105, 110, 100, 101, 120]) 2382), (.str (sS [115, 117, 98, 115, 116, 105, 116, 117, 116, 101]) 2383), (.str (sS [105, 110, 115, 101, 114, 116, 95, 100, 101, 108, 101, 116, 101]) 2384)]) 0), Array.mk []⟩
noncomputable def oI_174 (P : Params) : Obj := ⟨(.type "tuple"), none, (.seq (Array.mk []) 0), Array.mk []⟩
noncomputable def oI_175 (P : Params) : Obj := ⟨.none, none, (.func ({ name := (sS [95, 108, 101, 118, 101, 110, 115, 104, 116, 101, 105, 110, 95, 100, 105, 115, 116, 97, 110, 99, 101]), qualname := (sS [95, 108, 101, 118, 101, 110, 115, 104, 116, 101, 105, 110, 95, 100, 105, 115, 116, 97, 110, 99, 101]), params := fdP 25, body := .stmts (fdB 25), scope := fdS 25, globals := 0, closure := [], defaults := .none, kwdefaults := .none, doc := .none, pyModule := .none, annotations := none, code := .none, closureTuple := .none, builtins := 0 : FuncData})), Array.mk []⟩
noncomputable def oI_176 (P : Params) : Obj := ⟨(.type "code"), none, (.fields (Array.mk [(.str (sS [95, 108, 101, 118, 101, 110, 115, 104, 116, 101, 105, 110, 95, 100, 105, 115, 116, 97, 110, 99, 101]) 2368), (.str (sS [95, 108, 101, 118, 101, 110, 115, 104, 116, 101, 105, 110, 95, 100, 105, 115, 116, 97, 110, 99, 101]) 2369), (.str (sS [47, 99, 108, 97, 105, 109, 47, 99, 117, 116, 46, 112, 121]) 2370), (.int 69 0), (.int 3 0), (.int 0 0), (.int 0 0), (.int 3 0), (.ref 171), (.bool true), (.int 181 0), (.ref 172), .none, (.ref 173), (.ref 174), (.ref 175), (.int 2385 0), (.int 69 0), (.str (sS [47, 99, 108, 97, 105, 109, 47, 99, 117, 116, 46, 112, 121]) 2386)])), Array.mk []⟩
noncomputable def oI_177 (P : Params) : Obj := ⟨(.type "function"), none, (.func ({ name := (sS [95, 108, 101, 118, 101, 110, 115, 104, 116, 101, 105, 110, 95, 100, 105, 115, 116, 97, 110, 99, 101]), qualname := (sS [95, 108, 101, 118, 101, 110, 115, 104, 116, 101, 105, 110, 95, 100, 105, 115, 116, 97, 110, 99, 101]), params := fdP 25, body := .stmts (fdB 25), scope := fdS 25, globals := 3, closure := [], defaults := .none, kwdefaults := .none, doc := .none, pyModule := (.str (sS [99, 112, 121, 51, 49, 51, 46, 116, 114, 97, 99, 101, 98, 97, 99, 107]) 2352), annotations := none, code := (.ref 176), closureTuple := .none, builtins := 0 : FuncData})), Array.mk []⟩
noncomputable def oI_178 (P : Params) : Obj := ⟨(.type "tuple"), none, (.seq (Array.mk []) 0), Array.mk []⟩
noncomputable def oI_179 (P : Params) : Obj := ⟨.none, none, (.fields (Array.mk [])), Array.mk []⟩
noncomputable def oI_180 (P : Params) : Obj := ⟨(.type "tuple"), none, (.seq (Array.mk [(.str (sS [110, 97, 109, 101]) 2393), (.str (sS [110, 117, 109, 98, 101, 114]) 2394), (.str (sS [112, 108, 97, 99, 101]) 2395), (.str (sS [108, 101, 116, 116, 101, 114]) 2396)]) 0), Array.mk []⟩
noncomputable def oI_181 (P : Params) : Obj := ⟨(.type "tuple"), none, (.seq (Array.mk []) 0), Array.mk []⟩
noncomputable def oI_182 (P : Params) : Obj := ⟨.none, none, (.func ({ name := (sS [95, 108, 97, 119, 95, 115, 108, 105, 112]), qualname := (sS [95, 108, 97, 119, 95, 115, 108, 105, 112]), params := fdP 27, body := .stmts (fdB 27), scope := fdS 27, globals := 0, closure := [], defaults := .none, kwdefaults := .none, doc := .none, pyModule := .none, annotations := none, code := .none, closureTuple := .none, builtins := 0 : FuncData})), Array.mk []⟩
noncomputable def oI_183 (P : Params) : Obj := ⟨(.type "code"), none, (.fields (Array.mk [(.str (sS [95, 108, 97, 119, 95, 115, 108, 105, 112]) 2390), (.str (sS [95, 108, 97, 119, 95, 115, 108, 105, 112]) 2391), (.str (sS [47, 99, 108, 97, 105, 109, 47, 99, 117, 116, 46, 112, 121]) 2392), (.int 108 0), (.int 2 0), (.int 0 0), (.int 0 0), (.int 3 0), (.ref 178), (.bool true), (.int 181 0), (.ref 179), .none, (.ref 180), (.ref 181), (.ref 182), (.int 2397 0), (.int 108 0), (.str (sS [47, 99, 108, 97, 105, 109, 47, 99, 117, 116, 46, 112, 121]) 2398)])), Array.mk []⟩
noncomputable def oI_184 (P : Params) : Obj := ⟨(.type "function"), none, (.func ({ name := (sS [95, 108, 97, 119, 95, 115, 108, 105, 112]), qualname := (sS [95, 108, 97, 119, 95, 115, 108, 105, 112]), params := fdP 27, body := .stmts (fdB 27), scope := fdS 27, globals := 3, closure := [], defaults := .none, kwdefaults := .none, doc := .none, pyModule := (.str (sS [108, 97, 119, 95, 116, 97, 48, 48, 55, 55, 95, 48, 49]) 2388), annotations := none, code := (.ref 183), closureTuple := .none, builtins := 0 : FuncData})), Array.mk []⟩
noncomputable def oI_185 (P : Params) : Obj := ⟨(.type "tuple"), none, (.seq (Array.mk []) 0), Array.mk []⟩
noncomputable def oI_186 (P : Params) : Obj := ⟨.none, none, (.fields (Array.mk [])), Array.mk []⟩
noncomputable def oI_187 (P : Params) : Obj := ⟨(.type "tuple"), none, (.seq (Array.mk [(.str (sS [110, 117, 109, 98, 101, 114, 115]) 2403), (.str (sS [110, 97, 109, 101, 115]) 2404), (.str (sS [102, 105, 114, 115, 116]) 2405), (.str (sS [119, 111, 114, 116, 104]) 2406), (.str (sS [112, 114, 105, 110, 116, 101, 100]) 2407), (.str (sS [109, 101, 97, 110, 116]) 2408), (.str (sS [107]) 2409), (.str (sS [115, 108, 105, 112]) 2410), (.str (sS [104, 105, 103, 104]) 2411), (.str (sS [116, 111, 112]) 2412)]) 0), Array.mk []⟩
noncomputable def oI_188 (P : Params) : Obj := ⟨(.type "tuple"), none, (.seq (Array.mk []) 0), Array.mk []⟩
noncomputable def oI_189 (P : Params) : Obj := ⟨.none, none, (.func ({ name := (sS [95, 108, 97, 119, 95, 100, 114, 97, 119, 110]), qualname := (sS [95, 108, 97, 119, 95, 100, 114, 97, 119, 110]), params := fdP 28, body := .stmts (fdB 28), scope := fdS 28, globals := 0, closure := [], defaults := .none, kwdefaults := .none, doc := .none, pyModule := .none, annotations := none, code := .none, closureTuple := .none, builtins := 0 : FuncData})), Array.mk []⟩
noncomputable def oI_190 (P : Params) : Obj := ⟨(.type "code"), none, (.fields (Array.mk [(.str (sS [95, 108, 97, 119, 95, 100, 114, 97, 119, 110]) 2400), (.str (sS [95, 108, 97, 119, 95, 100, 114, 97, 119, 110]) 2401), (.str (sS [47, 99, 108, 97, 105, 109, 47, 99, 117, 116, 46, 112, 121]) 2402), (.int 118 0), (.int 1 0), (.int 0 0), (.int 0 0), (.int 3 0), (.ref 185), (.bool true), (.int 181 0), (.ref 186), .none, (.ref 187), (.ref 188), (.ref 189), (.int 2413 0), (.int 118 0), (.str (sS [47, 99, 108, 97, 105, 109, 47, 99, 117, 116, 46, 112, 121]) 2414)])), Array.mk []⟩
noncomputable def oI_191 (P : Params) : Obj := ⟨(.type "function"), none, (.func ({ name := (sS [95, 108, 97, 119, 95, 100, 114, 97, 119, 110]), qualname := (sS [95, 108, 97, 119, 95, 100, 114, 97, 119, 110]), params := fdP 28, body := .stmts (fdB 28), scope := fdS 28, globals := 3, closure := [], defaults := .none, kwdefaults := .none, doc := .none, pyModule := (.str (sS [108, 97, 119, 95, 116, 97, 48, 48, 55, 55, 95, 48, 49]) 2388), annotations := none, code := (.ref 190), closureTuple := .none, builtins := 0 : FuncData})), Array.mk []⟩
noncomputable def oI_192 (P : Params) : Obj := ⟨(.type "tuple"), none, (.seq (Array.mk []) 0), Array.mk []⟩
noncomputable def oI_193 (P : Params) : Obj := ⟨.none, none, (.fields (Array.mk [])), Array.mk []⟩
noncomputable def oI_194 (P : Params) : Obj := ⟨(.type "tuple"), none, (.seq (Array.mk [(.str (sS [116, 101, 120, 116]) 2419), (.str (sS [115, 101, 101, 100]) 2420), (.str (sS [102, 105, 114, 115, 116, 115]) 2421), (.str (sS [117, 110, 115, 101, 101, 110]) 2422), (.str (sS [115, 105, 103, 110, 115]) 2423), (.str (sS [107]) 2424), (.str (sS [102, 111, 114, 109]) 2425), (.str (sS [99, 111, 100, 101]) 2426)]) 0), Array.mk []⟩
noncomputable def oI_195 (P : Params) : Obj := ⟨(.type "tuple"), none, (.seq (Array.mk []) 0), Array.mk []⟩
noncomputable def oI_196 (P : Params) : Obj := ⟨.none, none, (.func ({ name := (sS [95, 108, 97, 119, 95, 116, 121, 112, 101, 100]), qualname := (sS [95, 108, 97, 119, 95, 116, 121, 112, 101, 100]), params := fdP 29, body := .stmts (fdB 29), scope := fdS 29, globals := 0, closure := [], defaults := .none, kwdefaults := .none, doc := .none, pyModule := .none, annotations := none, code := .none, closureTuple := .none, builtins := 0 : FuncData})), Array.mk []⟩
noncomputable def oI_197 (P : Params) : Obj := ⟨(.type "code"), none, (.fields (Array.mk [(.str (sS [95, 108, 97, 119, 95, 116, 121, 112, 101, 100]) 2416), (.str (sS [95, 108, 97, 119, 95, 116, 121, 112, 101, 100]) 2417), (.str (sS [47, 99, 108, 97, 105, 109, 47, 99, 117, 116, 46, 112, 121]) 2418), (.int 144 0), (.int 2 0), (.int 0 0), (.int 0 0), (.int 3 0), (.ref 192), (.bool true), (.int 181 0), (.ref 193), .none, (.ref 194), (.ref 195), (.ref 196), (.int 2427 0), (.int 144 0), (.str (sS [47, 99, 108, 97, 105, 109, 47, 99, 117, 116, 46, 112, 121]) 2428)])), Array.mk []⟩
noncomputable def oI_198 (P : Params) : Obj := ⟨(.type "function"), none, (.func ({ name := (sS [95, 108, 97, 119, 95, 116, 121, 112, 101, 100]), qualname := (sS [95, 108, 97, 119, 95, 116, 121, 112, 101, 100]), params := fdP 29, body := .stmts (fdB 29), scope := fdS 29, globals := 3, closure := [], defaults := .none, kwdefaults := .none, doc := .none, pyModule := (.str (sS [108, 97, 119, 95, 116, 97, 48, 48, 55, 55, 95, 48, 49]) 2388), annotations := none, code := (.ref 197), closureTuple := .none, builtins := 0 : FuncData})), Array.mk []⟩
noncomputable def oI_199 (P : Params) : Obj := ⟨(.type "tuple"), none, (.seq (Array.mk []) 0), Array.mk []⟩
noncomputable def oI_200 (P : Params) : Obj := ⟨.none, none, (.fields (Array.mk [])), Array.mk []⟩
noncomputable def oI_201 (P : Params) : Obj := ⟨.none, none, (.func ({ name := (sS [95, 108, 97, 119, 95, 104, 101, 97, 114, 100]), qualname := (sS [95, 108, 97, 119, 95, 104, 101, 97, 114, 100]), params := fdP 30, body := .stmts (fdB 30), scope := fdS 30, globals := 0, closure := [], defaults := .none, kwdefaults := .none, doc := .none, pyModule := .none, annotations := none, code := .none, closureTuple := .none, builtins := 0 : FuncData})), Array.mk []⟩
noncomputable def oI_202 (P : Params) : Obj := ⟨(.type "code"), none, (.fields (Array.mk [(.str (sS [95, 108, 97, 119, 95, 104, 101, 97, 114, 100]) 2430), (.str (sS [95, 108, 97, 119, 95, 104, 101, 97, 114, 100]) 2431), (.str (sS [47, 99, 108, 97, 105, 109, 47, 99, 117, 116, 46, 112, 121]) 2432), (.int 160 0), (.int 1 0), (.int 0 0), (.int 0 0), (.int 3 0), (.ref 199), (.bool true), (.int 181 0), (.ref 200), .none, .none, .none, (.ref 201), (.int 2433 0), (.int 160 0), (.str (sS [47, 99, 108, 97, 105, 109, 47, 99, 117, 116, 46, 112, 121]) 2434)])), Array.mk []⟩
noncomputable def oI_203 (P : Params) : Obj := ⟨(.type "function"), none, (.func ({ name := (sS [95, 108, 97, 119, 95, 104, 101, 97, 114, 100]), qualname := (sS [95, 108, 97, 119, 95, 104, 101, 97, 114, 100]), params := fdP 30, body := .stmts (fdB 30), scope := fdS 30, globals := 3, closure := [], defaults := .none, kwdefaults := .none, doc := .none, pyModule := (.str (sS [108, 97, 119, 95, 116, 97, 48, 48, 55, 55, 95, 48, 49]) 2388), annotations := none, code := (.ref 202), closureTuple := .none, builtins := 0 : FuncData})), Array.mk []⟩
noncomputable def oI_204 (P : Params) : Obj := ⟨(.type "tuple"), none, (.seq (Array.mk []) 0), Array.mk []⟩
noncomputable def oI_205 (P : Params) : Obj := ⟨.none, none, (.fields (Array.mk [])), Array.mk []⟩
noncomputable def oI_206 (P : Params) : Obj := ⟨(.type "tuple"), none, (.seq (Array.mk [(.str (sS [119, 111, 114, 100]) 2439), (.str (sS [102, 105, 103, 117, 114, 101]) 2440), (.str (sS [116, 111, 108, 100]) 2441)]) 0), Array.mk []⟩
noncomputable def oI_207 (P : Params) : Obj := ⟨(.type "tuple"), none, (.seq (Array.mk []) 0), Array.mk []⟩
noncomputable def oI_208 (P : Params) : Obj := ⟨.none, none, (.func ({ name := (sS [95, 108, 97, 119, 95, 98, 121, 95, 115, 105, 120, 116, 101, 101, 110, 115]), qualname := (sS [95, 108, 97, 119, 95, 98, 121, 95, 115, 105, 120, 116, 101, 101, 110, 115]), params := fdP 31, body := .stmts (fdB 31), scope := fdS 31, globals := 0, closure := [], defaults := .none, kwdefaults := .none, doc := .none, pyModule := .none, annotations := none, code := .none, closureTuple := .none, builtins := 0 : FuncData})), Array.mk []⟩
noncomputable def oI_209 (P : Params) : Obj := ⟨(.type "code"), none, (.fields (Array.mk [(.str (sS [95, 108, 97, 119, 95, 98, 121, 95, 115, 105, 120, 116, 101, 101, 110, 115]) 2436), (.str (sS [95, 108, 97, 119, 95, 98, 121, 95, 115, 105, 120, 116, 101, 101, 110, 115]) 2437), (.str (sS [47, 99, 108, 97, 105, 109, 47, 99, 117, 116, 46, 112, 121]) 2438), (.int 170 0), (.int 1 0), (.int 0 0), (.int 0 0), (.int 3 0), (.ref 204), (.bool true), (.int 181 0), (.ref 205), .none, (.ref 206), (.ref 207), (.ref 208), (.int 2442 0), (.int 170 0), (.str (sS [47, 99, 108, 97, 105, 109, 47, 99, 117, 116, 46, 112, 121]) 2443)])), Array.mk []⟩
noncomputable def oI_210 (P : Params) : Obj := ⟨(.type "function"), none, (.func ({ name := (sS [95, 108, 97, 119, 95, 98, 121, 95, 115, 105, 120, 116, 101, 101, 110, 115]), qualname := (sS [95, 108, 97, 119, 95, 98, 121, 95, 115, 105, 120, 116, 101, 101, 110, 115]), params := fdP 31, body := .stmts (fdB 31), scope := fdS 31, globals := 3, closure := [], defaults := .none, kwdefaults := .none, doc := .none, pyModule := (.str (sS [108, 97, 119, 95, 116, 97, 48, 48, 55, 55, 95, 48, 49]) 2388), annotations := none, code := (.ref 209), closureTuple := .none, builtins := 0 : FuncData})), Array.mk []⟩
noncomputable def oI_211 (P : Params) : Obj := ⟨(.type "tuple"), none, (.seq (Array.mk []) 0), Array.mk []⟩
noncomputable def oI_212 (P : Params) : Obj := ⟨.none, none, (.fields (Array.mk [])), Array.mk []⟩
noncomputable def oI_213 (P : Params) : Obj := ⟨.none, none, (.func ({ name := (sS [108, 97, 119]), qualname := (sS [108, 97, 119]), params := fdP 32, body := .stmts (fdB 32), scope := fdS 32, globals := 0, closure := [], defaults := .none, kwdefaults := .none, doc := .none, pyModule := .none, annotations := none, code := .none, closureTuple := .none, builtins := 0 : FuncData})), Array.mk []⟩
noncomputable def oI_214 (P : Params) : Obj := ⟨(.type "code"), none, (.fields (Array.mk [(.str (sS [108, 97, 119]) 2445), (.str (sS [108, 97, 119]) 2446), (.str (sS [47, 99, 108, 97, 105, 109, 47, 99, 117, 116, 46, 112, 121]) 2447), (.int 174 0), (.int 1 0), (.int 0 0), (.int 0 0), (.int 3 0), (.ref 211), (.bool true), (.int 181 0), (.ref 212), .none, .none, .none, (.ref 213), (.int 2448 0), (.int 174 0), (.str (sS [47, 99, 108, 97, 105, 109, 47, 99, 117, 116, 46, 112, 121]) 2449)])), Array.mk []⟩
noncomputable def oI_215 (P : Params) : Obj := ⟨(.type "function"), none, (.func ({ name := (sS [108, 97, 119]), qualname := (sS [108, 97, 119]), params := fdP 32, body := .stmts (fdB 32), scope := fdS 32, globals := 3, closure := [], defaults := .none, kwdefaults := .none, doc := .none, pyModule := (.str (sS [108, 97, 119, 95, 116, 97, 48, 48, 55, 55, 95, 48, 49]) 2388), annotations := none, code := (.ref 214), closureTuple := .none, builtins := 0 : FuncData})), Array.mk []⟩
noncomputable def treeI (P : Params) : BT := (.node (boot_o_0 P) (.node (boot_o_1 P) (.node (oI_3 P) (.node (boot_o_7 P) (.node (oE_15 P) (.node (oE_31 P) (.node (oE_63 P) (.node (o3 16) .nil .nil) (.node (oI_191 P) .nil .nil)) (.node (oF_95 P) (.node (oI_159 P) .nil .nil) .nil)) (.node (oE_47 P) (.node (oE_79 P) (.node (o3 32) .nil .nil) (.node (oI_207 P) .nil .nil)) (.node (o3 0) (.node (oI_175 P) .nil .nil) .nil))) (.node (oE_23 P) (.node (oE_39 P) (.node (oE_71 P) (.node (o3 24) .nil .nil) (.node (oI_199 P) .nil .nil)) (.node (oF_103 P) (.node (oI_167 P) .nil .nil) .nil)) (.node (oE_55 P) (.node (oE_87 P) (.node (oI_151 P) .nil .nil) (.node (oI_215 P) .nil .nil)) (.node (o3 8) (.node (oI_183 P) .nil .nil) .nil)))) (.node (oP_11 P) (.node (oE_19 P) (.node (oE_35 P) (.node (oE_67 P) (.node (o3 20) .nil .nil) (.node (oI_195 P) .nil .nil)) (.node (oF_99 P) (.node (oI_163 P) .nil .nil) .nil)) (.node (oE_51 P) (.node (oE_83 P) (.node (o3 36) .nil .nil) (.node (oI_211 P) .nil .nil)) (.node (o3 4) (.node (oI_179 P) .nil .nil) .nil))) (.node (oE_27 P) (.node (oE_43 P) (.node (oE_75 P) (.node (o3 28) .nil .nil) (.node (oI_203 P) .nil .nil)) (.node (oG_107 P) (.node (oI_171 P) .nil .nil) .nil)) (.node (oE_59 P) (.node (oE_91 P) (.node (oI_155 P) .nil .nil) .nil) (.node (o3 12) (.node (oI_187 P) .nil .nil) .nil))))) (.node (boot_o_5 P) (.node (boot_o_9 P) (.node (oE_17 P) (.node (oE_33 P) (.node (oE_65 P) (.node (o3 18) .nil .nil) (.node (oI_193 P) .nil .nil)) (.node (oF_97 P) (.node (oI_161 P) .nil .nil) .nil)) (.node (oE_49 P) (.node (oE_81 P) (.node (o3 34) .nil .nil) (.node (oI_209 P) .nil .nil)) (.node (o3 2) (.node (oI_177 P) .nil .nil) .nil))) (.node (oE_25 P) (.node (oE_41 P) (.node (oE_73 P) (.node (o3 26) .nil .nil) (.node (oI_201 P) .nil .nil)) (.node (oG_105 P) (.node (oI_169 P) .nil .nil) .nil)) (.node (oE_57 P) (.node (oE_89 P) (.node (oI_153 P) .nil .nil) .nil) (.node (o3 10) (.node (oI_185 P) .nil .nil) .nil)))) (.node (oP_13 P) (.node (oE_21 P) (.node (oE_37 P) (.node (oE_69 P) (.node (o3 22) .nil .nil) (.node (oI_197 P) .nil .nil)) (.node (oF_101 P) (.node (oI_165 P) .nil .nil) .nil)) (.node (oE_53 P) (.node (oE_85 P) (.node (o3 38) .nil .nil) (.node (oI_213 P) .nil .nil)) (.node (o3 6) (.node (oI_181 P) .nil .nil) .nil))) (.node (oE_29 P) (.node (oE_45 P) (.node (oE_77 P) (.node (o3 30) .nil .nil) (.node (oI_205 P) .nil .nil)) (.node (oG_109 P) (.node (oI_173 P) .nil .nil) .nil)) (.node (oE_61 P) (.node (oF_93 P) (.node (oI_157 P) .nil .nil) .nil) (.node (o3 14) (.node (oI_189 P) .nil .nil) .nil)))))) (.node (boot_o_2 P) (.node (boot_o_4 P) (.node (boot_o_8 P) (.node (oE_16 P) (.node (oE_32 P) (.node (oE_64 P) (.node (o3 17) .nil .nil) (.node (oI_192 P) .nil .nil)) (.node (oF_96 P) (.node (oI_160 P) .nil .nil) .nil)) (.node (oE_48 P) (.node (oE_80 P) (.node (o3 33) .nil .nil) (.node (oI_208 P) .nil .nil)) (.node (o3 1) (.node (oI_176 P) .nil .nil) .nil))) (.node (oE_24 P) (.node (oE_40 P) (.node (oE_72 P) (.node (o3 25) .nil .nil) (.node (oI_200 P) .nil .nil)) (.node (oG_104 P) (.node (oI_168 P) .nil .nil) .nil)) (.node (oE_56 P) (.node (oE_88 P) (.node (oI_152 P) .nil .nil) .nil) (.node (o3 9) (.node (oI_184 P) .nil .nil) .nil)))) (.node (oI_12 P) (.node (oE_20 P) (.node (oE_36 P) (.node (oE_68 P) (.node (o3 21) .nil .nil) (.node (oI_196 P) .nil .nil)) (.node (oF_100 P) (.node (oI_164 P) .nil .nil) .nil)) (.node (oE_52 P) (.node (oE_84 P) (.node (o3 37) .nil .nil) (.node (oI_212 P) .nil .nil)) (.node (o3 5) (.node (oI_180 P) .nil .nil) .nil))) (.node (oE_28 P) (.node (oE_44 P) (.node (oE_76 P) (.node (o3 29) .nil .nil) (.node (oI_204 P) .nil .nil)) (.node (oG_108 P) (.node (oI_172 P) .nil .nil) .nil)) (.node (oE_60 P) (.node (oE_92 P) (.node (oI_156 P) .nil .nil) .nil) (.node (o3 13) (.node (oI_188 P) .nil .nil) .nil))))) (.node (boot_o_6 P) (.node (boot_o_10 P) (.node (oE_18 P) (.node (oE_34 P) (.node (oE_66 P) (.node (o3 19) .nil .nil) (.node (oI_194 P) .nil .nil)) (.node (oF_98 P) (.node (oI_162 P) .nil .nil) .nil)) (.node (oE_50 P) (.node (oE_82 P) (.node (o3 35) .nil .nil) (.node (oI_210 P) .nil .nil)) (.node (o3 3) (.node (oI_178 P) .nil .nil) .nil))) (.node (oE_26 P) (.node (oE_42 P) (.node (oE_74 P) (.node (o3 27) .nil .nil) (.node (oI_202 P) .nil .nil)) (.node (oG_106 P) (.node (oI_170 P) .nil .nil) .nil)) (.node (oE_58 P) (.node (oE_90 P) (.node (oI_154 P) .nil .nil) .nil) (.node (o3 11) (.node (oI_186 P) .nil .nil) .nil)))) (.node (oP_14 P) (.node (oE_22 P) (.node (oE_38 P) (.node (oE_70 P) (.node (o3 23) .nil .nil) (.node (oI_198 P) .nil .nil)) (.node (oF_102 P) (.node (oI_166 P) .nil .nil) .nil)) (.node (oE_54 P) (.node (oE_86 P) (.node (oI_150 P) .nil .nil) (.node (oI_214 P) .nil .nil)) (.node (o3 7) (.node (oI_182 P) .nil .nil) .nil))) (.node (oE_30 P) (.node (oE_46 P) (.node (oE_78 P) (.node (o3 31) .nil .nil) (.node (oI_206 P) .nil .nil)) (.node (oG_110 P) (.node (oI_174 P) .nil .nil) .nil)) (.node (oE_62 P) (.node (oF_94 P) (.node (oI_158 P) .nil .nil) .nil) (.node (o3 15) (.node (oI_190 P) .nil .nil) .nil)))))))
noncomputable def SI (P : Params) (os : OsState) : SharedT := ⟨treeI P, 216, boot_life, Array.mk [], boot_drawn, 2451, os⟩
-- I: objs 216 toks 2451
noncomputable def posI : Pos := ⟨174, 0, 198, 83⟩
noncomputable def treeZ (P : Params) : BT := (.node (boot_o_0 P) (.node (boot_o_1 P) (.node (oI_3 P) (.node (boot_o_7 P) (.node (oE_15 P) (.node (oE_31 P) (.node (oE_63 P) (.node (o3 16) .nil .nil) (.node (oI_191 P) .nil .nil)) (.node (oF_95 P) (.node (oI_159 P) .nil .nil) .nil)) (.node (oE_47 P) (.node (oE_79 P) (.node (o3 32) .nil .nil) (.node (oI_207 P) .nil .nil)) (.node (o3 0) (.node (oI_175 P) .nil .nil) .nil))) (.node (oE_23 P) (.node (oE_39 P) (.node (oE_71 P) (.node (o3 24) .nil .nil) (.node (oI_199 P) .nil .nil)) (.node (oF_103 P) (.node (oI_167 P) .nil .nil) .nil)) (.node (oE_55 P) (.node (oE_87 P) (.node (oI_151 P) .nil .nil) (.node (oI_215 P) .nil .nil)) (.node (o3 8) (.node (oI_183 P) .nil .nil) .nil)))) (.node (oP_11 P) (.node (oE_19 P) (.node (oE_35 P) (.node (oE_67 P) (.node (o3 20) .nil .nil) (.node (oI_195 P) .nil .nil)) (.node (oF_99 P) (.node (oI_163 P) .nil .nil) .nil)) (.node (oE_51 P) (.node (oE_83 P) (.node (o3 36) .nil .nil) (.node (oI_211 P) .nil .nil)) (.node (o3 4) (.node (oI_179 P) .nil .nil) .nil))) (.node (oE_27 P) (.node (oE_43 P) (.node (oE_75 P) (.node (o3 28) .nil .nil) (.node (oI_203 P) .nil .nil)) (.node (oG_107 P) (.node (oI_171 P) .nil .nil) .nil)) (.node (oE_59 P) (.node (oE_91 P) (.node (oI_155 P) .nil .nil) .nil) (.node (o3 12) (.node (oI_187 P) .nil .nil) .nil))))) (.node (boot_o_5 P) (.node (boot_o_9 P) (.node (oE_17 P) (.node (oE_33 P) (.node (oE_65 P) (.node (o3 18) .nil .nil) (.node (oI_193 P) .nil .nil)) (.node (oF_97 P) (.node (oI_161 P) .nil .nil) .nil)) (.node (oE_49 P) (.node (oE_81 P) (.node (o3 34) .nil .nil) (.node (oI_209 P) .nil .nil)) (.node (o3 2) (.node (oI_177 P) .nil .nil) .nil))) (.node (oE_25 P) (.node (oE_41 P) (.node (oE_73 P) (.node (o3 26) .nil .nil) (.node (oI_201 P) .nil .nil)) (.node (oG_105 P) (.node (oI_169 P) .nil .nil) .nil)) (.node (oE_57 P) (.node (oE_89 P) (.node (oI_153 P) .nil .nil) .nil) (.node (o3 10) (.node (oI_185 P) .nil .nil) .nil)))) (.node (oP_13 P) (.node (oE_21 P) (.node (oE_37 P) (.node (oE_69 P) (.node (o3 22) .nil .nil) (.node (oI_197 P) .nil .nil)) (.node (oF_101 P) (.node (oI_165 P) .nil .nil) .nil)) (.node (oE_53 P) (.node (oE_85 P) (.node (o3 38) .nil .nil) (.node (oI_213 P) .nil .nil)) (.node (o3 6) (.node (oI_181 P) .nil .nil) .nil))) (.node (oE_29 P) (.node (oE_45 P) (.node (oE_77 P) (.node (o3 30) .nil .nil) (.node (oI_205 P) .nil .nil)) (.node (oG_109 P) (.node (oI_173 P) .nil .nil) .nil)) (.node (oE_61 P) (.node (oF_93 P) (.node (oI_157 P) .nil .nil) .nil) (.node (o3 14) (.node (oI_189 P) .nil .nil) .nil)))))) (.node (boot_o_2 P) (.node (boot_o_4 P) (.node (boot_o_8 P) (.node (oE_16 P) (.node (oE_32 P) (.node (oE_64 P) (.node (o3 17) .nil .nil) (.node (oI_192 P) .nil .nil)) (.node (oF_96 P) (.node (oI_160 P) .nil .nil) .nil)) (.node (oE_48 P) (.node (oE_80 P) (.node (o3 33) .nil .nil) (.node (oI_208 P) .nil .nil)) (.node (o3 1) (.node (oI_176 P) .nil .nil) .nil))) (.node (oE_24 P) (.node (oE_40 P) (.node (oE_72 P) (.node (o3 25) .nil .nil) (.node (oI_200 P) .nil .nil)) (.node (oG_104 P) (.node (oI_168 P) .nil .nil) .nil)) (.node (oE_56 P) (.node (oE_88 P) (.node (oI_152 P) .nil .nil) .nil) (.node (o3 9) (.node (oI_184 P) .nil .nil) .nil)))) (.node (oI_12 P) (.node (oE_20 P) (.node (oE_36 P) (.node (oE_68 P) (.node (o3 21) .nil .nil) (.node (oI_196 P) .nil .nil)) (.node (oF_100 P) (.node (oI_164 P) .nil .nil) .nil)) (.node (oE_52 P) (.node (oE_84 P) (.node (o3 37) .nil .nil) (.node (oI_212 P) .nil .nil)) (.node (o3 5) (.node (oI_180 P) .nil .nil) .nil))) (.node (oE_28 P) (.node (oE_44 P) (.node (oE_76 P) (.node (o3 29) .nil .nil) (.node (oI_204 P) .nil .nil)) (.node (oG_108 P) (.node (oI_172 P) .nil .nil) .nil)) (.node (oE_60 P) (.node (oE_92 P) (.node (oI_156 P) .nil .nil) .nil) (.node (o3 13) (.node (oI_188 P) .nil .nil) .nil))))) (.node (boot_o_6 P) (.node (boot_o_10 P) (.node (oE_18 P) (.node (oE_34 P) (.node (oE_66 P) (.node (o3 19) .nil .nil) (.node (oI_194 P) .nil .nil)) (.node (oF_98 P) (.node (oI_162 P) .nil .nil) .nil)) (.node (oE_50 P) (.node (oE_82 P) (.node (o3 35) .nil .nil) (.node (oI_210 P) .nil .nil)) (.node (o3 3) (.node (oI_178 P) .nil .nil) .nil))) (.node (oE_26 P) (.node (oE_42 P) (.node (oE_74 P) (.node (o3 27) .nil .nil) (.node (oI_202 P) .nil .nil)) (.node (oG_106 P) (.node (oI_170 P) .nil .nil) .nil)) (.node (oE_58 P) (.node (oE_90 P) (.node (oI_154 P) .nil .nil) .nil) (.node (o3 11) (.node (oI_186 P) .nil .nil) .nil)))) (.node (oP_14 P) (.node (oE_22 P) (.node (oE_38 P) (.node (oE_70 P) (.node (o3 23) .nil .nil) (.node (oI_198 P) .nil .nil)) (.node (oF_102 P) (.node (oI_166 P) .nil .nil) .nil)) (.node (oE_54 P) (.node (oE_86 P) (.node (oI_150 P) .nil .nil) (.node (oI_214 P) .nil .nil)) (.node (o3 7) (.node (oI_182 P) .nil .nil) .nil))) (.node (oE_30 P) (.node (oE_46 P) (.node (oE_78 P) (.node (o3 31) .nil .nil) (.node (oI_206 P) .nil .nil)) (.node (oG_110 P) (.node (oI_174 P) .nil .nil) .nil)) (.node (oE_62 P) (.node (oF_94 P) (.node (oI_158 P) .nil .nil) .nil) (.node (o3 15) (.node (oI_190 P) .nil .nil) .nil)))))))
noncomputable def SZ (P : Params) (os : OsState) : SharedT := ⟨treeZ P, 216, boot_life, Array.mk [], boot_drawn, 2451, os⟩
-- Z: objs 216 toks 2451
noncomputable def kAs : List Nat := [2, 3, 15, 16, 18, 19, 21, 22, 23, 25, 26, 28, 29, 30, 32, 33, 35, 36, 37, 39, 40, 42, 43, 44, 46, 47, 49, 50, 51, 53, 54, 56, 57, 58, 60, 61, 63, 64, 65, 67, 68, 70, 71, 72, 74, 75, 77, 78, 79, 81, 82, 84, 85, 86, 88, 89, 91, 92, 100, 104, 106, 107, 109, 110, 111, 150, 152, 153, 155, 156, 157, 159, 160, 162, 163, 164, 166, 167, 169, 170, 171, 173, 174, 176, 177, 178, 180, 181, 183, 184, 185, 187, 188, 190, 191, 192, 194, 195, 197, 198, 199, 202, 203, 204, 206, 207, 209, 210, 211, 214, 215]
noncomputable def kF (P : Params) : Frag := [(nat_lit 2, boot_o_2 P), (nat_lit 3, oI_3 P), (nat_lit 15, oE_15 P), (nat_lit 16, oE_16 P), (nat_lit 18, oE_18 P), (nat_lit 19, oE_19 P), (nat_lit 21, oE_21 P), (nat_lit 22, oE_22 P), (nat_lit 23, oE_23 P), (nat_lit 25, oE_25 P), (nat_lit 26, oE_26 P), (nat_lit 28, oE_28 P), (nat_lit 29, oE_29 P), (nat_lit 30, oE_30 P), (nat_lit 32, oE_32 P), (nat_lit 33, oE_33 P), (nat_lit 35, oE_35 P), (nat_lit 36, oE_36 P), (nat_lit 37, oE_37 P), (nat_lit 39, oE_39 P), (nat_lit 40, oE_40 P), (nat_lit 42, oE_42 P), (nat_lit 43, oE_43 P), (nat_lit 44, oE_44 P), (nat_lit 46, oE_46 P), (nat_lit 47, oE_47 P), (nat_lit 49, oE_49 P), (nat_lit 50, oE_50 P), (nat_lit 51, oE_51 P), (nat_lit 53, oE_53 P), (nat_lit 54, oE_54 P), (nat_lit 56, oE_56 P), (nat_lit 57, oE_57 P), (nat_lit 58, oE_58 P), (nat_lit 60, oE_60 P), (nat_lit 61, oE_61 P), (nat_lit 63, oE_63 P), (nat_lit 64, oE_64 P), (nat_lit 65, oE_65 P), (nat_lit 67, oE_67 P), (nat_lit 68, oE_68 P), (nat_lit 70, oE_70 P), (nat_lit 71, oE_71 P), (nat_lit 72, oE_72 P), (nat_lit 74, oE_74 P), (nat_lit 75, oE_75 P), (nat_lit 77, oE_77 P), (nat_lit 78, oE_78 P), (nat_lit 79, oE_79 P), (nat_lit 81, oE_81 P), (nat_lit 82, oE_82 P), (nat_lit 84, oE_84 P), (nat_lit 85, oE_85 P), (nat_lit 86, oE_86 P), (nat_lit 88, oE_88 P), (nat_lit 89, oE_89 P), (nat_lit 91, oE_91 P), (nat_lit 92, oE_92 P), (nat_lit 100, oF_100 P), (nat_lit 104, oG_104 P), (nat_lit 106, oG_106 P), (nat_lit 107, oG_107 P), (nat_lit 109, oG_109 P), (nat_lit 110, oG_110 P), (nat_lit 111, o3 0), (nat_lit 150, oI_150 P), (nat_lit 152, oI_152 P), (nat_lit 153, oI_153 P), (nat_lit 155, oI_155 P), (nat_lit 156, oI_156 P), (nat_lit 157, oI_157 P), (nat_lit 159, oI_159 P), (nat_lit 160, oI_160 P), (nat_lit 162, oI_162 P), (nat_lit 163, oI_163 P), (nat_lit 164, oI_164 P), (nat_lit 166, oI_166 P), (nat_lit 167, oI_167 P), (nat_lit 169, oI_169 P), (nat_lit 170, oI_170 P), (nat_lit 171, oI_171 P), (nat_lit 173, oI_173 P), (nat_lit 174, oI_174 P), (nat_lit 176, oI_176 P), (nat_lit 177, oI_177 P), (nat_lit 178, oI_178 P), (nat_lit 180, oI_180 P), (nat_lit 181, oI_181 P), (nat_lit 183, oI_183 P), (nat_lit 184, oI_184 P), (nat_lit 185, oI_185 P), (nat_lit 187, oI_187 P), (nat_lit 188, oI_188 P), (nat_lit 190, oI_190 P), (nat_lit 191, oI_191 P), (nat_lit 192, oI_192 P), (nat_lit 194, oI_194 P), (nat_lit 195, oI_195 P), (nat_lit 197, oI_197 P), (nat_lit 198, oI_198 P), (nat_lit 199, oI_199 P), (nat_lit 202, oI_202 P), (nat_lit 203, oI_203 P), (nat_lit 204, oI_204 P), (nat_lit 206, oI_206 P), (nat_lit 207, oI_207 P), (nat_lit 209, oI_209 P), (nat_lit 210, oI_210 P), (nat_lit 211, oI_211 P), (nat_lit 214, oI_214 P), (nat_lit 215, oI_215 P)]
noncomputable def envT : Env := { scope := pw.main.scope, locals := mainNs, globals := mainNs, cells := [], code := .ref 13, frame := some 14 }
noncomputable def cx0 : Ctx := ⟨.builtin "claim.caller" {}, none, none, [], none⟩
noncomputable def cx1 : Ctx := cx0.enter (.body topB envT) none default
end
end
-- HeadC
section
noncomputable section
noncomputable def denQ : Code → Sem Fin := PySem.W.Fast.tw11892475500146522536 PySem.W.Fast.tw14364793385576792824
theorem denQ_eq : denote treeTable = denQ := by
  rw [show @denote = PySem.W.Fast.tw11892475500146522536 from PySem.W.Fast.te11892475500146522536, show treeTable = _ from PySem.W.Fast.te14364793385576792824]
  rfl
abbrev execsQ := PySem.W.Fast.tw12563942051412417395
theorem segE (w : World) (os : OsState) (b : Bool) : (ev denQ pw (w.withFollow "special-get-raises" b) 600).tree Flow cx1 (execsQ (sts 0 15) envT) default (SB w.params os) = some (.ok .next, posE, SE w.params os) := by
  cases b <;> kernel_rfl
theorem segF (w : World) (os : OsState) (b : Bool) : (ev denQ pw (w.withFollow "special-get-raises" b) 1200).tree Flow cx1 (execsQ (sts 15 16) envT) posE (SE w.params os) = some (.ok .next, posF, SF w.params os) := by
  cases b <;> kernel_rfl
theorem segG (w : World) (os : OsState) : (ev denQ pw w 400).tree Flow cx1 (execsQ (sts 16 17) envT) posF (SF w.params os) = some (.ok .next, posG, SG w.params os) := by kernel_rfl
theorem segI (w : World) (os : OsState) : (ev denQ pw w 400).tree Flow cx1 (execsQ (sts 18 33) envT) posH (SH w.params os) = some (.ok .next, posI, SI w.params os) := by kernel_rfl
end
end
-- HeadD
section
/-- a heap by its list -/
abbrev hl (l : List Obj) (life : Life) : Heap := ⟨l.toArray, life⟩
theorem hl_get {l : List Obj} {life : Life} {a : Nat} {o : Obj} (h : l[a]? = some o) (hf : o.isFreed = false) : (hl l life).get? a = some o := by
  unfold Heap.get?
  show (match (l.toArray)[a]? with | some ⟨_, _, .freed, _⟩ => none | o => o) = some o
  rw [List.getElem?_toArray, h]
  obtain ⟨c, d, dt, sl⟩ := o
  cases dt <;> first | rfl | cases hf
theorem hl_at (l : List Obj) (o : Obj) (r : List Obj) : (l ++ o :: r)[l.length]? = some o := by simp
theorem hl_push (l : List Obj) (life : Life) (o : Obj) : (hl l life).push o = hl (l ++ [o]) life := by
  show Heap.mk (l.toArray.push o) life = _
  simp
theorem hl_upd (l : List Obj) (o : Obj) (r : List Obj) (life : Life) (f : Obj → Obj) : (hl (l ++ o :: r) life).update l.length f = hl (l ++ f o :: r) life := by
  show Heap.mk ((l ++ o :: r).toArray.modify l.length f) life = _
  congr 1
  apply Array.ext_getElem?
  intro i
  rw [Array.getElem?_modify]
  simp only [List.getElem?_toArray]
  by_cases h : l.length = i
  · subst h; simp
  · rw [if_neg h]
    rcases Nat.lt_or_ge i l.length with q | q
    · rw [List.getElem?_append_left q, List.getElem?_append_left q]
    · have : i - l.length ≠ 0 := by omega
      rw [List.getElem?_append_right q, List.getElem?_append_right q, List.getElem?_cons, List.getElem?_cons, if_neg this, if_neg this]

theorem keys_app {prog : Program} {w : World} {a b : List DictEntry} (ha : KeysOf (intKind prog w) a.toArray) (hb : KeysOf (intKind prog w) b.toArray) : KeysOf (intKind prog w) (a ++ b).toArray := by
  intro e he
  have : e ∈ a ++ b := by simpa using he
  rcases List.mem_append.mp this with h | h
  · exact ha e (by simpa using h)
  · exact hb e (by simpa using h)

noncomputable def ents (l : List DictEntry) : List Int := l.map fun e => match e.key with | .int i _ => i | _ => 0

theorem keys_entL {prog : Program} {w : World} : ∀ (ps : List (Int × PySem.Str)) (t : Nat), KeysOf (intKind prog w) (entL t ps).toArray
  | [], _ => fun e he => by simp [entL] at he
  | (i, x) :: r, t => fun e he => by
    have : e ∈ entL t ((i, x) :: r) := by simpa using he
    rcases List.mem_cons.mp this with h | h
    · subst h; exact ⟨i, by simp [intKind, Value.isInt], rfl⟩
    · exact keys_entL r (t + 3) e (by simpa using h)
theorem keys_entS {prog : Program} {w : World} : ∀ (ps : List (Int × PySem.Str)) (t : Nat), KeysOf (intKind prog w) (entS t ps).toArray
  | [], _ => fun e he => by simp [entS] at he
  | (i, x) :: r, t => fun e he => by
    have : e ∈ entS t ((i, x) :: r) := by simpa using he
    rcases List.mem_cons.mp this with h | h
    · subst h; exact ⟨i, by simp [intKind, Value.isInt], rfl⟩
    · exact keys_entS r (t + 2) e (by simpa using h)
theorem ents_entL : ∀ (ps : List (Int × PySem.Str)) (t : Nat), ents (entL t ps) = ps.map (·.1)
  | [], _ => rfl
  | (i, x) :: r, t => by rw [entL, ents, List.map_cons, List.map_cons]; exact congrArg _ (ents_entL r (t + 3))
theorem ents_entS : ∀ (ps : List (Int × PySem.Str)) (t : Nat), ents (entS t ps) = ps.map (·.1)
  | [], _ => rfl
  | (i, x) :: r, t => by rw [entS, ents, List.map_cons, List.map_cons]; exact congrArg _ (ents_entS r (t + 2))
theorem len_entL : ∀ (ps : List (Int × PySem.Str)) (t : Nat), (entL t ps).length = ps.length
  | [], _ => rfl
  | (i, x) :: r, t => by rw [entL, List.length_cons, List.length_cons, len_entL r]
theorem len_entS : ∀ (ps : List (Int × PySem.Str)) (t : Nat), (entS t ps).length = ps.length
  | [], _ => rfl
  | (i, x) :: r, t => by rw [entS, List.length_cons, List.length_cons, len_entS r]
theorem ents_app (a b : List DictEntry) : ents (a ++ b) = ents a ++ ents b := List.map_append

/-- no entry of that key is found -/
theorem none_found {prog : Program} {w : World} {es : List DictEntry} {k : Int} (hk : KeysOf (intKind prog w) es.toArray) (hn : k ∉ ents es) :
    (es.toArray.findIdx? fun e => (intKind prog w).is k e.key) = none := by
  rw [Array.findIdx?_eq_none_iff]
  intro e he
  have he' : e ∈ es := by simpa using he
  obtain ⟨k', h1, _⟩ := hk e he
  obtain ⟨t, h2⟩ := Value.isInt_shape h1
  rw [h2]
  show Value.isInt k (.int k' t) = false
  have : k' ∈ ents es := List.mem_map.mpr ⟨e, he', by rw [h2]⟩
  have hne : k ≠ k' := fun q => hn (q ▸ this)
  simp only [Value.isInt]
  simpa using fun q : k' = k => hne q.symm

theorem dO_push (es : List DictEntry) (e : DictEntry) : Obj.mapDictKeys (·.push e) (dO es) = dO (es ++ [e]) := by
  show Obj.mk _ _ (.dict (es.toArray.push e) (es.length + 1)) _ = _
  simp [dO]

section
variable {prog : Program} {w : World} {A : Around} {E : Value → Shared → Prop} {s : Shared}

theorem setHashed_new {d : Addr} {es : List DictEntry} {k : Int} {t : Tok} {v : Value} {Q : Unit → Shared → Prop} (ho : s.heap.get? d = some (dO es)) (hk : KeysOf (intKind prog w) es.toArray) (hn : k ∉ ents es)
    (hz : es.length ≤ sizeLine) (h : Q () { s with heap := s.heap.update d (Obj.mapDictKeys (·.push ⟨hashInt k, .int k t, v⟩)) }) :
    wpAny (model prog w) A (dictSetHashed d (.int k t) (hashInt k) v) Q E s := by
  unfold dictSetHashed
  refine wpAny_holding ?_
  refine wpAny_bind (wpAny_dictFind_of (knd := intKind prog w) (by simp [intKind, Value.isInt]) ho rfl hk ?_)
  rw [none_found hk hn]
  exact wpAny_bind (wpAny_rule (wpAny_updateDictKeys (hz := by simpa using hz) ho rfl h))

theorem set_new {d : Addr} {es : List DictEntry} {k : Int} {t : Tok} {v : Value} {Q : Unit → Shared → Prop} (ho : s.heap.get? d = some (dO es)) (hk : KeysOf (intKind prog w) es.toArray) (hn : k ∉ ents es)
    (hz : es.length ≤ sizeLine) (h : Q () { s with heap := s.heap.update d (Obj.mapDictKeys (·.push ⟨hashInt k, .int k t, v⟩)), toks := s.toks + 1 }) :
    wpAny (model prog w) A (dictSet d (.int k t) v) Q E s := by
  unfold dictSet
  refine wpAny_holding ?_
  exact wpAny_bind ((intKind prog w).pyHash (by simp [intKind, Value.isInt]) (setHashed_new (s := { s with toks := s.toks + 1 }) ho hk hn hz h))

theorem put_new {d : Addr} {es : List DictEntry} {k : Int} {t : Tok} {v : Value} {Q : Unit → Shared → Prop} (ho : s.heap.get? d = some (dO es)) (hk : KeysOf (intKind prog w) es.toArray) (hn : k ∉ ents es)
    (hz : es.length ≤ sizeLine) (h : Q () { s with heap := s.heap.update d (Obj.mapDictKeys (·.push ⟨hashInt k, .int k t, v⟩)) }) :
    wpAny (model prog w) A (dictPut d (hashInt k) (.int k t) v) Q E s := by
  unfold dictPut
  refine wpAny_bind (wpAny_dictFind_of (knd := intKind prog w) (by simp [intKind, Value.isInt]) ho rfl hk ?_)
  rw [none_found hk hn]
  exact wpAny_updateDictKeys (hz := by simpa using hz) ho rfl h
end
end
-- HeadE
section
/-- a pair of the display, as its trees -/
abbrev pT (pos : Pos) (p : Int × PySem.Str) : Sem Value × Sem Value := (mkInt p.1, do let x ← mkText p.2; standAt pos; pure x)

section
variable {prog : Program} {w : World} {A : Around} {E : Value → Shared → Prop} {s : Shared}

theorem fillL {pos : Pos} {l : List Obj} {life : Life} : ∀ (ps : List (Int × PySem.Str)) (es : List DictEntry) (tk : Nat) (Q : PUnit → Shared → Prop), KeysOf (intKind prog w) es.toArray →
    (ents es ++ ps.map (·.1)).Nodup → es.length + ps.length ≤ sizeLine → Q PUnit.unit { s with heap := hl (l ++ [dO (es ++ entL tk ps)]) life, toks := tk + 3 * ps.length } →
    wpAny (model prog w) A (forIn (ps.map (pT pos)) PUnit.unit fun (x : Sem Value × Sem Value) (_ : PUnit) => (do
        let kv ← x.1
        let vv ← holding [kv] x.2
        holding [kv, vv] (dictSet l.length kv vv)
        pure (ForInStep.yield PUnit.unit) : Sem (ForInStep PUnit))) Q E { s with heap := hl (l ++ [dO es]) life, toks := tk }
  | [], es, tk, Q, _, _, _, h => by
    rw [List.map_nil, List.forIn_nil]
    exact wpAny_pure (by simpa [entL] using h)
  | (i, x) :: r, es, tk, Q, hk, hn, hz, h => by
    rw [List.map_cons, List.forIn_cons]
    rw [List.length_cons] at hz
    have hi : i ∉ ents es := by
      rw [List.map_cons, List.nodup_append] at hn
      intro q
      exact hn.2.2 i q i (List.mem_cons_self) rfl
    refine wpAny_bind (wpAny_bind (wpAny_mkInt ?_))
    refine wpAny_bind (wpAny_holding (wpAny_bind (wpAny_mkText (wpAny_bind (wpAny_standAt (wpAny_pure ?_))))))
    refine wpAny_bind (wpAny_holding (set_new (es := es) (hl_get (hl_at _ _ _) rfl) hk hi (by (first | lia | omega)) ?_))
    refine wpAny_pure ?_
    rw [hl_upd, dO_push]
    refine fillL r (es ++ [⟨hashInt i, .int i tk, .str x (tk + 1)⟩]) (tk + 1 + 1 + 1) Q ?_ ?_ ?_ ?_
    · refine keys_app hk ?_
      intro e he
      have : e = ⟨hashInt i, .int i tk, .str x (tk + 1)⟩ := by simpa using he
      subst this
      exact ⟨i, by simp [intKind, Value.isInt], rfl⟩
    · rw [ents_app]
      simpa [ents] using hn
    · rw [List.length_append, List.length_singleton]; (first | lia | omega)
    · have e1 : es ++ [(⟨hashInt i, .int i tk, .str x (tk + 1)⟩ : DictEntry)] ++ entL (tk + 1 + 1 + 1) r = es ++ entL tk ((i, x) :: r) := by simp [entL]
      have e2 : tk + 1 + 1 + 1 + 3 * r.length = tk + 3 * ((i, x) :: r).length := by rw [List.length_cons]; (first | lia | omega)
      rw [e1, e2]
      exact h

theorem subL {pos : Pos} {l : List Obj} {life : Life} {ps : List (Int × PySem.Str)} {tk : Nat} {Q : Addr → Shared → Prop} (h15 : ¬ ps.length ≤ 15) (hn : (ps.map (·.1)).Nodup) (hz : ps.length ≤ sizeLine)
    (h : Q l.length { s with heap := hl (l ++ [dO (entL tk ps)]) life, toks := tk + 3 * ps.length }) :
    wpAny (model prog w) A (subDict (ps.map (pT pos))) Q E { s with heap := hl l life, toks := tk } := by
  unfold subDict
  refine wpAny_bind (wpAny_alloc ?_)
  show wpAny _ _ _ _ _ { s with heap := (hl l life).push _, toks := tk }
  rw [hl_push]
  have e : (hl l life).objs.size = l.length := by simp
  show wpAny _ _ (holding [.ref (hl l life).objs.size] _ >>= _) _ _ _
  rw [e]
  refine wpAny_bind (wpAny_holding ?_)
  rw [if_neg (by simpa using h15)]
  refine wpAny_bind (wpAny_rule ?_)
  refine wpAny_bind (fillL ps [] tk _ (fun e he => by simp at he) (by simpa [ents] using hn) (by simpa using hz) ?_)
  exact wpAny_pure (wpAny_pure (by simpa using h))

/-- what the trees of a short run hand back -/
noncomputable def valsS : Nat → List (Int × PySem.Str) → List (Value × Value)
  | _, [] => []
  | t, (i, x) :: r => (.int i t, .str x (t + 1)) :: valsS (t + 2) r

theorem pairsS {pos : Pos} : ∀ (ps : List (Int × PySem.Str)) (s : Shared) (Q : List (Value × Value) → Shared → Prop), Q (valsS s.toks ps) { s with toks := s.toks + 2 * ps.length } →
    wpAny (model prog w) A (evalPairs (ps.map (pT pos))) Q E s
  | [], s, Q, h => evalPairs_nil (by simpa [valsS] using h)
  | (i, x) :: r, s, Q, h => by
    rw [List.map_cons]
    refine evalPairs_cons (wpAny_mkInt (wpAny_bind (wpAny_mkText (wpAny_bind (wpAny_standAt (wpAny_pure ?_))))))
    refine pairsS r _ _ ?_
    have e2 : s.toks + 1 + 1 + 2 * r.length = s.toks + 2 * ((i, x) :: r).length := by rw [List.length_cons]; (first | lia | omega)
    show Q ((_, _) :: valsS (s.toks + 1 + 1) r) { s with toks := s.toks + 1 + 1 + 2 * r.length }
    rw [e2]
    exact h

theorem storeS {l : List Obj} {life : Life} : ∀ (ps : List (Int × PySem.Str)) (es : List DictEntry) (t tk : Nat) (Q : PUnit → Shared → Prop), KeysOf (intKind prog w) es.toArray →
    (ents es ++ ps.map (·.1)).Nodup → es.length + ps.length ≤ sizeLine → Q PUnit.unit { s with heap := hl (l ++ [dO (es ++ entS t ps)]) life, toks := tk + ps.length } →
    wpAny (model prog w) A (forIn (valsS t ps) PUnit.unit fun (x : Value × Value) (_ : PUnit) => (do dictSet l.length x.1 x.2; pure (ForInStep.yield PUnit.unit) : Sem (ForInStep PUnit))) Q E { s with heap := hl (l ++ [dO es]) life, toks := tk }
  | [], es, t, tk, Q, _, _, _, h => by
    rw [valsS, List.forIn_nil]
    exact wpAny_pure (by simpa [entS] using h)
  | (i, x) :: r, es, t, tk, Q, hk, hn, hz, h => by
    rw [valsS, List.forIn_cons]
    rw [List.length_cons] at hz
    have hi : i ∉ ents es := by
      rw [List.map_cons, List.nodup_append] at hn
      intro q
      exact hn.2.2 i q i (List.mem_cons_self) rfl
    refine wpAny_bind (wpAny_bind (set_new (es := es) (hl_get (hl_at _ _ _) rfl) hk hi (by (first | lia | omega)) ?_))
    refine wpAny_pure ?_
    rw [hl_upd, dO_push]
    refine storeS r (es ++ [⟨hashInt i, .int i t, .str x (t + 1)⟩]) (t + 2) (tk + 1) Q ?_ ?_ ?_ ?_
    · refine keys_app hk ?_
      intro e he
      have : e = ⟨hashInt i, .int i t, .str x (t + 1)⟩ := by simpa using he
      subst this
      exact ⟨i, by simp [intKind, Value.isInt], rfl⟩
    · rw [ents_app]
      simpa [ents] using hn
    · rw [List.length_append, List.length_singleton]; (first | lia | omega)
    · have e1 : es ++ [(⟨hashInt i, .int i t, .str x (t + 1)⟩ : DictEntry)] ++ entS (t + 2) r = es ++ entS t ((i, x) :: r) := by simp [entS]
      have e2 : tk + 1 + r.length = tk + ((i, x) :: r).length := by rw [List.length_cons]; (first | lia | omega)
      rw [e1, e2]
      exact h

theorem subS {pos : Pos} {l : List Obj} {life : Life} {ps : List (Int × PySem.Str)} {tk : Nat} {Q : Addr → Shared → Prop} (h15 : ps.length ≤ 15) (hn : (ps.map (·.1)).Nodup)
    (h : Q l.length { s with heap := hl (l ++ [dO (entS tk ps)]) life, toks := tk + 2 * ps.length + ps.length }) :
    wpAny (model prog w) A (subDict (ps.map (pT pos))) Q E { s with heap := hl l life, toks := tk } := by
  unfold subDict
  refine wpAny_bind (wpAny_alloc ?_)
  show wpAny _ _ _ _ _ { s with heap := (hl l life).push _, toks := tk }
  rw [hl_push]
  have e : (hl l life).objs.size = l.length := by simp
  show wpAny _ _ (holding [.ref (hl l life).objs.size] _ >>= _) _ _ _
  rw [e]
  refine wpAny_bind (wpAny_holding ?_)
  rw [if_pos (by simpa using h15)]
  refine wpAny_bind (pairsS ps _ _ ?_)
  refine wpAny_holding ?_
  have hz : ([] : List DictEntry).length + ps.length ≤ sizeLine := by rw [sizeLine_eq, List.length_nil]; (first | lia | omega)
  refine wpAny_bind (storeS (s := s) (l := l) ps [] tk (tk + 2 * ps.length) _ (fun e he => by simp at he) (by simpa [ents] using hn) hz ?_)
  exact wpAny_pure (wpAny_pure (by simpa using h))
end
end
-- HeadF
section
theorem upd_at {l : List Obj} {life : Life} {a : Nat} {f : Obj → Obj} {o : Obj} (h : l[a]? = some o) : (hl l life).update a f = hl (l.set a (f o)) life := by
  show Heap.mk (l.toArray.modify a f) life = _
  congr 1
  apply Array.ext_getElem?
  intro i
  rw [Array.getElem?_modify]
  simp only [List.getElem?_toArray, List.getElem?_set]
  by_cases q : a = i
  · subst q
    have hlt : a < l.length := (List.getElem?_eq_some_iff.mp h).1
    have hq : l[a] = o := (List.getElem?_eq_some_iff.mp h).2
    simp [hlt, hq]
  · simp [q]

section
variable {prog : Program} {w : World} {A : Around} {E : Value → Shared → Prop} {s : Shared}

/-- the loop of a merge: from the i-th entry of the lesser dict on -/
theorem mergeLoop {a d : Nat} {l0 mid : List Obj} {life : Life} {tk : Nat} {sub : List DictEntry} (hk : KeysOf (intKind prog w) sub.toArray) (hd : d = l0.length) (ha : a = (l0 ++ dO [] :: mid).length)
    (F : Nat → PUnit → Sem (ForInStep PUnit)) (hF : ∀ i, F i PUnit.unit = (do
      match (← dictEntries a)[i]? with
      | some e => do
        holding [e.key, e.val] (do
          dictPut d e.hash e.key e.val)
        if (← dictEpoch a) != sub.length then do
          (unsupported "dict.changed-during-merge" : Sem PUnit)
          pure (ForInStep.yield PUnit.unit)
        else pure (ForInStep.yield PUnit.unit)
      | _ => do
        (unsupported "dict.changed-during-merge" : Sem PUnit)
        pure (ForInStep.yield PUnit.unit) : Sem (ForInStep PUnit))) : ∀ (n i : Nat) (es : List DictEntry) (Q : PUnit → Shared → Prop), i + n = sub.length → KeysOf (intKind prog w) es.toArray →
      (ents es ++ ents (sub.drop i)).Nodup → es.length + n ≤ sizeLine → Q PUnit.unit { s with heap := hl (l0 ++ dO (es ++ sub.drop i) :: mid ++ [dO sub]) life, toks := tk } →
      wpAny (model prog w) A (forIn (List.range' i n) PUnit.unit F) Q E { s with heap := hl (l0 ++ dO es :: mid ++ [dO sub]) life, toks := tk }
  | 0, i, es, Q, hi, hke, hn, hz, h => by
    rw [List.range'_zero, List.forIn_nil]
    have : sub.drop i = [] := List.drop_eq_nil_of_le (by (first | lia | omega))
    rw [this, List.append_nil] at h
    exact wpAny_pure h
  | n + 1, i, es, Q, hi, hke, hn, hz, h => by
    rw [List.range'_succ, List.forIn_cons, hF]
    have hlt : i < sub.length := by (first | lia | omega)
    have hga : (l0 ++ dO es :: mid ++ [dO sub])[a]? = some (dO sub) := by rw [ha]; simp
    have hgd : (l0 ++ dO es :: mid ++ [dO sub])[d]? = some (dO es) := by rw [hd]; simp
    refine wpAny_bind (wpAny_bind (wpAny_dictEntries (hl_get hga rfl) rfl ?_))
    have he : sub.toArray[i]? = some sub[i] := by simp [hlt]
    rw [he]
    obtain ⟨k, h1, h2⟩ := hk sub[i] (by simp)
    obtain ⟨t, h3⟩ := Value.isInt_shape h1
    dsimp only
    have hdr : sub.drop i = sub[i] :: sub.drop (i + 1) := List.drop_eq_getElem_cons hlt
    have hki : ents (sub.drop i) = k :: ents (sub.drop (i + 1)) := by
      rw [hdr]; simp only [ents, List.map_cons, h3]
    rw [hki, List.nodup_append] at hn
    have hnk : k ∉ ents es := fun q => hn.2.2 k q k List.mem_cons_self rfl
    have hent : sub[i] = ⟨hashInt k, .int k t, sub[i].val⟩ := by
      cases hs : sub[i] with
      | mk hh kk vv => rw [hs] at h2 h3; simp only at h2 h3; rw [h2, h3]; rfl
    refine wpAny_bind (wpAny_holding ?_)
    rw [h3, h2]
    refine put_new (es := es) (hl_get hgd rfl) hke hnk (by (first | lia | omega)) ?_
    have hup : (hl (l0 ++ dO es :: mid ++ [dO sub]) life).update d (Obj.mapDictKeys (·.push ⟨hashInt k, .int k t, sub[i].val⟩)) = hl (l0 ++ dO (es ++ [sub[i]]) :: mid ++ [dO sub]) life := by
      have e : l0 ++ dO es :: mid ++ [dO sub] = l0 ++ dO es :: (mid ++ [dO sub]) := by simp
      rw [e, hd, hl_upd, dO_push, ← hent]
      simp
    show wpAny _ _ _ _ _ { s with heap := (hl (l0 ++ dO es :: mid ++ [dO sub]) life).update d _, toks := tk }
    rw [show (intKind prog w).hash k = hashInt k from rfl] at *
    rw [hup]
    have hga' : (l0 ++ dO (es ++ [sub[i]]) :: mid ++ [dO sub])[a]? = some (dO sub) := by rw [ha]; simp
    refine wpAny_bind (wpAny_dictEpoch (hl_get hga' rfl) rfl ?_)
    rw [if_neg (by simp)]
    refine wpAny_pure ?_
    refine mergeLoop hk hd ha F hF n (i + 1) (es ++ [sub[i]]) Q (by (first | lia | omega)) ?_ ?_ ?_ ?_
    · refine keys_app hke ?_
      intro e he
      have : e = sub[i] := by simpa using he
      subst this
      exact ⟨k, h1, h2⟩
    · rw [ents_app]
      have e1 : ents [sub[i]] = [k] := by simp only [ents, List.map_cons, List.map_nil, h3]
      rw [e1, List.append_assoc, List.nodup_append]
      exact hn
    · rw [List.length_append, List.length_singleton]; (first | lia | omega)
    · have e1 : es ++ [sub[i]] ++ sub.drop (i + 1) = es ++ sub.drop i := by rw [hdr]; simp
      rw [e1]; exact h

theorem merge {a d : Nat} {l0 mid : List Obj} {life : Life} {tk : Nat} {es sub : List DictEntry} {Q : PUnit → Shared → Prop} (hd : d = l0.length) (ha : a = (l0 ++ dO [] :: mid).length) (hS : (a == sysModules) = false)
    (hk : KeysOf (intKind prog w) sub.toArray) (hke : KeysOf (intKind prog w) es.toArray) (hne : es ≠ []) (hn : (ents es ++ ents sub).Nodup) (hz : es.length + sub.length ≤ sizeLine)
    (h : Q PUnit.unit { s with heap := hl (l0 ++ dO (es ++ sub) :: mid ++ [dO sub]) life, toks := tk }) :
    wpAny (model prog w) A (mergeMapping d (.ref a) false) Q E { s with heap := hl (l0 ++ dO es :: mid ++ [dO sub]) life, toks := tk } := by
  have hga : (hl (l0 ++ dO es :: mid ++ [dO sub]) life).get? a = some (dO sub) := hl_get (by rw [ha]; simp) rfl
  have hgd : (hl (l0 ++ dO es :: mid ++ [dO sub]) life).get? d = some (dO es) := hl_get (by rw [hd]; simp) rfl
  have hT : Shared.TypeIs { s with heap := hl (l0 ++ dO es :: mid ++ [dO sub]) life, toks := tk } (.ref a) "dict" := ⟨_, hga, rfl⟩
  unfold mergeMapping
  refine wpAny_bind (wpAny_isInstance hT isSubtype_dict_dict ?_)
  simp only [if_true]
  refine wpAny_bind (wpAny_specialOf hT F.slot_dict_iter.lookup ?_)
  simp only [beq_self_eq_true]
  refine wpAny_bind (wpAny_pure ?_)
  dsimp only
  rw [hS]
  simp only [Bool.false_eq_true, if_false]
  refine wpAny_bind (wpAny_dictEntries hgd rfl ?_)
  have hemp : (es.toArray.isEmpty) = false := by cases es with | nil => exact absurd rfl hne | cons => rfl
  rw [hemp]
  simp only [Bool.false_eq_true, if_false]
  refine wpAny_bind (wpAny_dictEntries hga rfl ?_)
  refine wpAny_bind (wpAny_dictEpoch hga rfl ?_)
  refine wpAny_bind ?_
  rw [List.range_eq_range']
  refine mergeLoop (s := s) (tk := tk) (life := life) (mid := mid) hk hd ha _ (fun i => ?_) sub.toArray.size 0 es _ (by simp) hke (by simpa using hn) (by simpa using hz) (wpAny_pure (by simpa using h))
  rfl
end
end
-- HeadG
section
theorem entL_app : ∀ (a b : List (Int × PySem.Str)) (t : Nat), entL t (a ++ b) = entL t a ++ entL (t + 3 * a.length) b
  | [], b, t => by simp [entL]
  | (i, x) :: a, b, t => by
    rw [List.cons_append, entL, entL, entL_app a b (t + 3), List.cons_append]
    rw [show t + 3 + 3 * a.length = t + 3 * ((i, x) :: a).length by rw [List.length_cons]; (first | lia | omega)]

noncomputable def subsL : Nat → List (List (Int × PySem.Str)) → List Obj
  | _, [] => []
  | t, c :: cs => dO (entL t c) :: subsL (t + 3 * c.length) cs

abbrev it (p : Sem Value × Sem Value) : Option (Sem Value) × Sem Value := (some p.1, p.2)

section
variable {f : (Option (Sem Value) × Sem Value) → (Option Addr × List (Sem Value × Sem Value)) → Sem (ForInStep (Option Addr × List (Sem Value × Sem Value)))}
theorem gather (hf : ∀ (p : Sem Value × Sem Value) (run : List (Sem Value × Sem Value)) (m : Option Addr), run.length + 1 < 17 → f (it p) (m, run) = pure (.yield (m, run ++ [p]))) :
    ∀ (c run : List (Sem Value × Sem Value)) (m : Option Addr) (rest : List (Option (Sem Value) × Sem Value)), run.length + c.length < 17 → forIn (c.map it ++ rest) (m, run) f = forIn rest (m, run ++ c) f
  | [], run, m, rest, _ => by simp
  | p :: c, run, m, rest, h => by
    rw [List.length_cons] at h
    rw [List.map_cons, List.cons_append, List.forIn_cons, hf p run m (by (first | lia | omega)), pure_bind]
    have := gather hf c (run ++ [p]) m rest (by simp; (first | lia | omega))
    simpa using this
theorem chunk17 {fl : List (Sem Value × Sem Value) → Option Addr → Sem (Option Addr)}
    (hf : ∀ (p : Sem Value × Sem Value) (run : List (Sem Value × Sem Value)) (m : Option Addr), run.length + 1 < 17 → f (it p) (m, run) = pure (.yield (m, run ++ [p])))
    (hg : ∀ (p : Sem Value × Sem Value) (run : List (Sem Value × Sem Value)) (m : Option Addr), run.length + 1 = 17 → f (it p) (m, run) = (fl (run ++ [p]) m >>= fun m' => pure (.yield (m', []))))
    (c : List (Sem Value × Sem Value)) (m : Option Addr) (rest : List (Option (Sem Value) × Sem Value)) (h : c.length = 17) :
    forIn (c.map it ++ rest) (m, []) f = (fl c m >>= fun m' => forIn rest (m', []) f) := by
  have hne : c ≠ [] := by intro q; subst q; simp at h
  have e := List.dropLast_concat_getLast hne
  have hl : c.dropLast.length = 16 := by rw [List.length_dropLast, h]
  rw [← e, List.map_append, List.append_assoc, gather hf c.dropLast [] m _ (by simp [hl]), List.nil_append]
  rw [List.map_cons, List.map_nil, List.singleton_append, List.forIn_cons, hg _ _ _ (by rw [hl]), e, bind_assoc]
  congr 1
end

section
variable {prog : Program} {w : World} {A : Around} {E : Value → Shared → Prop} {s : Shared}

noncomputable def flush (run : List (Sem Value × Sem Value)) (main : Option Addr) : Sem (Option Addr) := do
  if run.isEmpty then return main
  match main with
  | none => return some (← subDict run)
  | some d =>
    let sub ← holding [.ref d] (subDict run)
    (holding [.ref d, .ref sub] (mergeMapping d (.ref sub) false)).onRaise fun x => do let _ ← holding [.ref d, x] (runValue (.builtin "proto.let_go" {}))
    return some d

theorem flush_none {pos : Pos} {l : List Obj} {life : Life} {c : List (Int × PySem.Str)} {tk : Nat} {Q : Option Addr → Shared → Prop} (hc : c.length = 17) (hn : (c.map (·.1)).Nodup)
    (h : Q (some l.length) { s with heap := hl (l ++ [dO (entL tk c)]) life, toks := tk + 3 * c.length }) :
    wpAny (model prog w) A (flush (c.map (pT pos)) none) Q E { s with heap := hl l life, toks := tk } := by
  unfold flush
  rw [if_neg (by cases c with | nil => simp at hc | cons => simp)]
  dsimp only
  exact wpAny_bind (subL (by (first | lia | omega)) hn (by rw [sizeLine_eq]; (first | lia | omega)) (wpAny_pure h))

theorem flush_some {pos : Pos} {l mid : List Obj} {life : Life} {c : List (Int × PySem.Str)} {es : List DictEntry} {tk : Nat} {Q : Option Addr → Shared → Prop} (hl2 : 2 ≤ l.length) (hc : c.length = 17) (hne : es ≠ [])
    (hk : KeysOf (intKind prog w) es.toArray) (hn : (ents es ++ c.map (·.1)).Nodup) (hz : es.length ≤ 1000)
    (h : Q (some l.length) { s with heap := hl (l ++ dO (es ++ entL tk c) :: (mid ++ [dO (entL tk c)])) life, toks := tk + 3 * c.length }) :
    wpAny (model prog w) A (flush (c.map (pT pos)) (some l.length)) Q E { s with heap := hl (l ++ dO es :: mid) life, toks := tk } := by
  unfold flush
  rw [if_neg (by cases c with | nil => simp at hc | cons => simp)]
  dsimp only
  have hn2 : (c.map (·.1)).Nodup := (List.nodup_append.mp hn).2.1
  refine wpAny_bind (wpAny_holding (subL (by (first | lia | omega)) hn2 (by rw [sizeLine_eq]; (first | lia | omega)) ?_))
  refine wpAny_bind (wpAny_onRaise (wpAny_holding ?_))
  refine merge (s := s) (l0 := l) (mid := mid) (life := life) (es := es) rfl (by simp) ?_ (keys_entL c tk) hk hne (by rw [ents_entL]; exact hn) (by rw [len_entL, sizeLine_eq]; (first | lia | omega)) ?_
  · have : (l ++ dO es :: mid).length ≠ sysModules := by
      rw [show sysModules = 1 from rfl, List.length_append]; (first | lia | omega)
    simpa using this
  · refine wpAny_pure ?_
    have e : l ++ dO (es ++ entL tk c) :: mid ++ [dO (entL tk c)] = l ++ dO (es ++ entL tk c) :: (mid ++ [dO (entL tk c)]) := by simp
    rw [e]
    exact h

theorem flush_last {pos : Pos} {l mid : List Obj} {life : Life} {c : List (Int × PySem.Str)} {es : List DictEntry} {tk : Nat} {Q : Option Addr → Shared → Prop} (hl2 : 2 ≤ l.length) (hc : c.length ≤ 15) (hc0 : c ≠ []) (hne : es ≠ [])
    (hk : KeysOf (intKind prog w) es.toArray) (hn : (ents es ++ c.map (·.1)).Nodup) (hz : es.length ≤ 1000)
    (h : Q (some l.length) { s with heap := hl (l ++ dO (es ++ entS tk c) :: (mid ++ [dO (entS tk c)])) life, toks := tk + 3 * c.length }) :
    wpAny (model prog w) A (flush (c.map (pT pos)) (some l.length)) Q E { s with heap := hl (l ++ dO es :: mid) life, toks := tk } := by
  unfold flush
  rw [if_neg (by cases c with | nil => exact absurd rfl hc0 | cons => simp)]
  dsimp only
  have hn2 : (c.map (·.1)).Nodup := (List.nodup_append.mp hn).2.1
  refine wpAny_bind (wpAny_holding (subS hc hn2 ?_))
  refine wpAny_bind (wpAny_onRaise (wpAny_holding ?_))
  refine merge (s := s) (l0 := l) (mid := mid) (life := life) (es := es) rfl (by simp) ?_ (keys_entS c tk) hk hne (by rw [ents_entS]; exact hn) (by rw [len_entS, sizeLine_eq]; (first | lia | omega)) ?_
  · have : (l ++ dO es :: mid).length ≠ sysModules := by
      rw [show sysModules = 1 from rfl, List.length_append]; (first | lia | omega)
    simpa using this
  · refine wpAny_pure ?_
    have e : l ++ dO (es ++ entS tk c) :: mid ++ [dO (entS tk c)] = l ++ dO (es ++ entS tk c) :: (mid ++ [dO (entS tk c)]) := by simp
    rw [e, show tk + 2 * c.length + c.length = tk + 3 * c.length by (first | lia | omega)]
    exact h

theorem chunks {pos : Pos} {f : (Option (Sem Value) × Sem Value) → (Option Addr × List (Sem Value × Sem Value)) → Sem (ForInStep (Option Addr × List (Sem Value × Sem Value)))}
    (hf : ∀ (p : Sem Value × Sem Value) (run : List (Sem Value × Sem Value)) (m : Option Addr), run.length + 1 < 17 → f (it p) (m, run) = pure (.yield (m, run ++ [p])))
    (hg : ∀ (p : Sem Value × Sem Value) (run : List (Sem Value × Sem Value)) (m : Option Addr), run.length + 1 = 17 → f (it p) (m, run) = (flush (run ++ [p]) m >>= fun m' => pure (.yield (m', []))))
    {l : List Obj} {life : Life} (hl2 : 2 ≤ l.length) (r : List (Int × PySem.Str)) (hr : r.length < 17) : ∀ (cs : List (List (Int × PySem.Str))) (es : List DictEntry) (mid : List Obj) (tk : Nat) (Q : Option Addr × List (Sem Value × Sem Value) → Shared → Prop),
      (∀ c ∈ cs, c.length = 17) → es ≠ [] → KeysOf (intKind prog w) es.toArray → (ents es ++ cs.flatten.map (·.1)).Nodup → es.length + cs.flatten.length ≤ 1000 →
      Q (some l.length, r.map (pT pos)) { s with heap := hl (l ++ dO (es ++ entL tk cs.flatten) :: (mid ++ subsL tk cs)) life, toks := tk + 3 * cs.flatten.length } →
      wpAny (model prog w) A (forIn (((cs.flatten ++ r).map (pT pos)).map it) (some l.length, []) f) Q E { s with heap := hl (l ++ dO es :: mid) life, toks := tk }
  | [], es, mid, tk, Q, _, _, _, _, _, h => by
    have := gather hf (r.map (pT pos)) [] (some l.length) [] (by simpa using hr)
    rw [List.append_nil] at this
    rw [List.flatten_nil, List.nil_append, this, List.forIn_nil, List.nil_append]
    exact wpAny_pure (by simpa [entL, subsL] using h)
  | c :: cs, es, mid, tk, Q, hcs, hne, hk, hn, hz, h => by
    have hc : c.length = 17 := hcs c List.mem_cons_self
    rw [List.flatten_cons, List.append_assoc, List.map_append, List.map_append, chunk17 hf hg _ _ _ (by simpa using hc)]
    rw [List.flatten_cons, List.map_append, ← List.append_assoc] at hn
    rw [List.flatten_cons, List.length_append] at hz
    refine wpAny_bind (flush_some (s := s) hl2 hc hne hk (List.nodup_append.mp hn).1 (by (first | lia | omega)) ?_)
    refine chunks hf hg hl2 r hr cs (es ++ entL tk c) (mid ++ [dO (entL tk c)]) (tk + 3 * c.length) Q (fun c' h' => hcs c' (List.mem_cons_of_mem _ h')) (by simp [hne]) (keys_app hk (keys_entL c tk)) ?_ ?_ ?_
    · rw [ents_app, ents_entL]; exact hn
    · rw [List.length_append, len_entL]; (first | lia | omega)
    · have e1 : es ++ entL tk c ++ entL (tk + 3 * c.length) cs.flatten = es ++ entL tk (c :: cs).flatten := by rw [List.flatten_cons, entL_app, List.append_assoc]
      have e2 : mid ++ [dO (entL tk c)] ++ subsL (tk + 3 * c.length) cs = mid ++ subsL tk (c :: cs) := by rw [subsL, List.append_assoc, List.singleton_append]
      have e3 : tk + 3 * c.length + 3 * cs.flatten.length = tk + 3 * (c :: cs).flatten.length := by rw [List.flatten_cons, List.length_append]; (first | lia | omega)
      rw [e1, e2, e3]
      exact h

theorem display {pos : Pos} {l : List Obj} {life : Life} {tk : Nat} {c : List (Int × PySem.Str)} {cs : List (List (Int × PySem.Str))} {r : List (Int × PySem.Str)} {Q : Value → Shared → Prop}
    (hl2 : 2 ≤ l.length) (hc : c.length = 17) (hcs : ∀ c ∈ cs, c.length = 17) (hr : r.length ≤ 15) (hr0 : r ≠ []) (hn : ((c ++ cs.flatten ++ r).map (·.1)).Nodup) (hz : (c ++ cs.flatten ++ r).length ≤ 1000)
    (h : Q (.ref l.length) { s with heap := hl (l ++ dO (entL tk (c ++ cs.flatten) ++ entS (tk + 3 * (c ++ cs.flatten).length) r) :: (subsL (tk + 3 * c.length) cs ++ [dO (entS (tk + 3 * (c ++ cs.flatten).length) r)])) life, toks := tk + 3 * (c ++ cs.flatten ++ r).length }) :
    wpAny (model prog w) A (dictDisplay ((c ++ cs.flatten ++ r).map fun p => it (pT pos p))) Q E { s with heap := hl l life, toks := tk } := by
  rw [List.map_append, List.map_append] at hn
  rw [List.length_append, List.length_append] at hz
  have hf : ∀ (p : Sem Value × Sem Value) (run : List (Sem Value × Sem Value)), run.length + 1 < 17 → ((run ++ [p]).length == 17) = false := fun p run h => by simp; (first | lia | omega)
  have hg : ∀ (p : Sem Value × Sem Value) (run : List (Sem Value × Sem Value)), run.length + 1 = 17 → ((run ++ [p]).length == 17) = true := fun p run h => by simp; (first | lia | omega)
  unfold dictDisplay
  dsimp only
  refine wpAny_bind ?_
  have e : (c ++ cs.flatten ++ r).map (fun p => it (pT pos p)) = (c.map (pT pos)).map it ++ ((cs.flatten ++ r).map (pT pos)).map it := by
    rw [List.append_assoc, List.map_append, List.map_map, List.map_map]; rfl
  rw [e]
  rw [chunk17 (fl := flush) (fun p run m h => by simp only [it, hf p run h, Bool.false_eq_true, if_false]) (fun p run m h => by simp only [it, hg p run h, if_true]; rfl) _ _ _ (by simpa using hc)]
  refine wpAny_bind (flush_none (s := s) hc (List.nodup_append.mp (List.nodup_append.mp hn).1).1 ?_)
  have hne : entL tk c ≠ [] := by intro q; have := len_entL c tk; rw [q, hc] at this; simp at this
  refine chunks (s := s) (mid := []) (fun p run m h => by simp only [it, hf p run h, Bool.false_eq_true, if_false]) (fun p run m h => by simp only [it, hg p run h, if_true]; rfl) hl2 r (by (first | lia | omega)) cs (entL tk c) (tk + 3 * c.length) _ hcs hne (keys_entL c tk) ?_ ?_ ?_
  · rw [ents_entL]; exact (List.nodup_append.mp hn).1
  · rw [len_entL]; (first | lia | omega)
  · show wpAny _ _ (flush (r.map (pT pos)) (some l.length) >>= _) _ _ _
    refine wpAny_bind (flush_last (s := s) hl2 hr hr0 (by simp [hne]) ?_ ?_ ?_ ?_)
    · exact keys_app (keys_entL c tk) (keys_entL cs.flatten _)
    · rw [ents_app, ents_entL, ents_entL]; exact hn
    · rw [List.length_append, len_entL, len_entL]; (first | lia | omega)
    · refine wpAny_pure ?_
      rw [← entL_app, List.nil_append]
      have e1 : tk + 3 * c.length + 3 * cs.flatten.length = tk + 3 * (c ++ cs.flatten).length := by rw [List.length_append]; (first | lia | omega)
      have e2 : tk + 3 * (c ++ cs.flatten).length + 3 * r.length = tk + 3 * (c ++ cs.flatten ++ r).length := by rw [List.length_append (as := c ++ cs.flatten)]; (first | lia | omega)
      rw [e1, e2]
      exact h
end
end
-- HeadH
section
noncomputable section

noncomputable def asg17 : List Expr × Pos × Pos := match stA 17 with
  | .Assign ts (.Dict _ _ dp) ap => (ts, dp, ap)
  | _ => ([], default, default)
theorem st17 : sts 17 18 = [.Assign asg17.1 (.Dict b3E.1 b3E.2 asg17.2.1) asg17.2.2] := by kernel_rfl
noncomputable def tail17 (v : Value) : Sem Flow := do assignStores envT v (← swappedStores asg17.1 (.Dict b3E.1 b3E.2 asg17.2.1) envT) ((assignEach asg17.1 envT).map (·.2))
noncomputable def swap17 : Sem Bool := swapsWithSole asg17.1 (.Dict b3E.1 b3E.2 asg17.2.1) asg17.2.2.line envT
theorem exec17 : exec (.Assign asg17.1 (.Dict b3E.1 b3E.2 asg17.2.1) asg17.2.2) envT = (do
    standAt asg17.2.2
    if ← swap17 then do
      evalThenUse (.Dict b3E.1 b3E.2 asg17.2.1) envT fun v => assignAll v ((assignEach asg17.1 envT).map (·.2))
      pure .next
    else do
      let v ← eval (.Dict b3E.1 b3E.2 asg17.2.1) envT
      tail17 v) := by rfl

theorem items17 : (evalEachOpt b3E.1 envT).zip ((evalEach b3E.2 envT).map fun v => do let x ← v; standAt asg17.2.1; pure x) = kv.map fun p => it (pT asg17.2.1 p) := by kernel_rfl

noncomputable def kc : List (Int × PySem.Str) := kv.take 17
noncomputable def kcs : List (List (Int × PySem.Str)) := (List.range 37).map fun k => (kv.drop (17 * (k + 1))).take 17
noncomputable def kr : List (Int × PySem.Str) := kv.drop 646
theorem kv_parts : kv = kc ++ kcs.flatten ++ kr := by kernel_rfl
noncomputable def rising : List Int → Bool
  | a :: b :: r => decide (a < b) && rising (b :: r)
  | _ => true
theorem rising_all : ∀ (a : Int) (l : List Int), rising (a :: l) = true → ∀ b ∈ l, a < b
  | a, [], _, b, h => by simp at h
  | a, c :: l, h, b, hb => by
    simp only [rising, Bool.and_eq_true, decide_eq_true_eq] at h
    rcases List.mem_cons.mp hb with q | q
    · subst q; exact h.1
    · exact Int.lt_trans h.1 (rising_all c l h.2 b q)
theorem nodup_of_rising : ∀ l : List Int, rising l = true → l.Nodup
  | [], _ => List.nodup_nil
  | [a], _ => by simp
  | a :: b :: l, h => by
    rw [List.nodup_cons]
    refine ⟨fun q => Int.lt_irrefl _ (rising_all a (b :: l) h a q), nodup_of_rising (b :: l) ?_⟩
    simp only [rising, Bool.and_eq_true] at h
    exact h.2
theorem kv_rising : rising (kv.map (·.1)) = true := by kernel_rfl
theorem heap17 (P : Params) : (treeG P).list 111 ++ dO (entL 386 (kc ++ kcs.flatten) ++ entS (386 + 3 * (kc ++ kcs.flatten).length) kr) :: (subsL (386 + 3 * kc.length) kcs ++ [dO (entS (386 + 3 * (kc ++ kcs.flatten).length) kr)]) = (treeH0 P).list 150 := by kernel_rfl
theorem toks17 : 386 + 3 * (kc ++ kcs.flatten ++ kr).length = 2336 := by kernel_rfl
theorem len17 (P : Params) : ((treeG P).list 111).length = 111 := by rw [BT.list, List.length_map, List.length_range]
theorem shape17 : (decide (kc.length = 17) && kcs.all (fun c => decide (c.length = 17)) && decide (kr.length ≤ 15) && !kr.isEmpty && decide ((kc ++ kcs.flatten ++ kr).length ≤ 1000)) = true := by kernel_rfl

theorem swapOk (w : World) (os : OsState) (p : Pos) : (ev denQ pw w 50).tree Bool cx1 swap17 p (SG w.params os) = some (.ok false, p, SG w.params os) := by kernel_rfl
theorem tailOk (w : World) (os : OsState) (p : Pos) : (ev denQ pw w 200).tree Flow cx1 (tail17 (.ref 111)) p (SH0 w.params os) = some (.ok .next, posH, SH w.params os) := by kernel_rfl
end
end
-- HeadI
section
noncomputable section

theorem model_is (w : World) : model pw w = ⟨denQ, pw, w⟩ := by
  unfold model
  rw [table_eq_tree, denQ_eq]
theorem execsQ_eq : @execs = execsQ := PySem.W.Fast.te12563942051412417395

/-- what the evaluator found, as a wp -/
theorem wp_ev {α : Type} {w : World} {Γ : Ctx} {t : Sem α} {p p' : Pos} {s s' : SharedT} {n : Nat} {a : α} {Q : α → Pos → Shared → Prop} {E : Value → Pos → Shared → Prop}
    (h : (ev denQ pw w n).tree α Γ t p s = some (.ok a, p', s')) (hQ : Q a p' s'.abs) : Sem.wp (model pw w) Γ t Q E p s.abs := by
  rw [model_is]
  exact (ev_sound n).1 _ _ _ _ _ _ _ _ _ _ h hQ

theorem wp_execs_app {M : Model} {Γ : Ctx} {env : Env} {r : List Stmt} : ∀ (l : List Stmt) (Q : Flow → Pos → Shared → Prop) (E : Value → Pos → Shared → Prop) (p : Pos) (s : Shared),
    Sem.wp M Γ (execs l env) (fun f p' s' => f = .next ∧ Sem.wp M Γ (execs r env) Q E p' s') E p s → Sem.wp M Γ (execs (l ++ r) env) Q E p s
  | [], Q, E, p, s, h => by
    rw [execs] at h
    rw [Sem.wp_pure'] at h
    exact h.2
  | st :: l, Q, E, p, s, h => by
    rw [execs, Sem.wp_bind'] at h
    rw [List.cons_append, execs, Sem.wp_bind']
    refine Sem.wp_mono _ _ _ (fun f p' s' hf => ?_) (fun _ _ _ h => h) p s h
    cases f with
    | next => exact wp_execs_app l Q E p' s' hf
    | _ => rw [Sem.wp_pure'] at hf; cases hf.1

noncomputable def S0 (P : Params) (os : OsState) : SharedT := ⟨.node (boot_o_0 P) (.node (boot_o_1 P) (.node (boot_o_3 P) (.node (boot_o_7 P) .nil .nil) .nil) (.node (boot_o_5 P) (.node (boot_o_9 P) .nil .nil) .nil)) (.node (boot_o_2 P) (.node (boot_o_4 P) (.node (boot_o_8 P) .nil .nil) .nil) (.node (boot_o_6 P) (.node (boot_o_10 P) .nil .nil) .nil)), 11, boot_life, Array.mk [], boot_drawn, boot_toks, os⟩
theorem S0_heap (P : Params) (os : OsState) : (S0 P os).abs = ⟨boot_heap P, Array.mk [], boot_drawn, boot_toks, os⟩ := by kernel_rfl

noncomputable def preT : Sem (Value × Addr) := do
  let code ← moduleCode pw.main
  let frame ← newBodyFrame code mainNs mainNs
  pure (code, frame)
noncomputable def envOfT (x : Value × Addr) : Env := { scope := pw.main.scope, locals := mainNs, globals := mainNs, cells := [], code := x.1, frame := some x.2 }
noncomputable def topT : Sem Fin := (topStub pw).cur
theorem topT_is : topT = (preT >>= fun x => run (.body topB (envOfT x)) >>= fun _ => ret .none) := by
  unfold preT
  rw [bind_assoc]
  show topT = (moduleCode pw.main >>= fun code => ((newBodyFrame code mainNs mainNs >>= fun frame => pure (code, frame)) >>= _))
  simp only [bind_assoc, pure_bind]
  rfl
theorem preOk (w : World) (os : OsState) : (ev denQ pw w 100).tree (Value × Addr) cx0 preT default (S0 w.params os) = some (.ok (.ref 13, 14), default, SP w.params os) := by kernel_rfl
theorem blockOk (w : World) (os : OsState) : (ev denQ pw w 20).tree Unit cx1 (blockStart topB envT) default (SP w.params os) = some (.ok (), default, SB w.params os) := by kernel_rfl
theorem topB_parts : topB = sts 0 15 ++ (sts 15 16 ++ (sts 16 17 ++ (sts 17 18 ++ sts 18 33))) := by kernel_rfl

theorem evE (w : World) (os : OsState) : (ev denQ pw w 600).tree Flow cx1 (execs (sts 0 15) envT) default (SB w.params os) = some (.ok .next, posE, SE w.params os) := by
  have h := segE w os (w.params.followText "special-get-raises")
  rw [World.withFollow_self, ← execsQ_eq] at h
  exact h
theorem evF (w : World) (os : OsState) : (ev denQ pw w 1200).tree Flow cx1 (execs (sts 15 16) envT) posE (SE w.params os) = some (.ok .next, posF, SF w.params os) := by
  have h := segF w os (w.params.followText "special-get-raises")
  rw [World.withFollow_self, ← execsQ_eq] at h
  exact h
theorem evG (w : World) (os : OsState) : (ev denQ pw w 400).tree Flow cx1 (execs (sts 16 17) envT) posF (SF w.params os) = some (.ok .next, posG, SG w.params os) := by
  have h := segG w os
  rw [← execsQ_eq] at h
  exact h
theorem evI (w : World) (os : OsState) : (ev denQ pw w 400).tree Flow cx1 (execs (sts 18 33) envT) posH (SH w.params os) = some (.ok .next, posI, SI w.params os) := by
  have h := segI w os
  rw [← execsQ_eq] at h
  exact h

noncomputable def arX : Around := { handled := none, depth := frameCount cx1.below + cx1.code.weight, frames := none, guards := none, units := cx1.units }
theorem cx1_in : cx1.In arX := ⟨rfl, Nat.le_refl _, fun _ h => (nomatch h), fun _ h => (nomatch h), Nat.le_refl _⟩

theorem SG_heap (P : Params) (os : OsState) : (SG P os).abs = { heap := hl ((treeG P).list 111) boot_life, gens := Array.mk [], drawn := boot_drawn, toks := 386, os := os } := rfl
theorem SH0_heap (P : Params) (os : OsState) : (SH0 P os).abs = { heap := hl ((treeH0 P).list 150) boot_life, gens := Array.mk [], drawn := boot_drawn, toks := 2336, os := os } := rfl

theorem dict_gen {w : World} {env : Env} {os : OsState} {ks : List (Option Expr)} {vs : List Expr} {dp : Pos} {l : List Obj} {tk : Nat} {a : Addr} {l' : List Obj} {tk' : Nat} {m : List (Int × PySem.Str)} {c : List (Int × PySem.Str)} {cs : List (List (Int × PySem.Str))} {r : List (Int × PySem.Str)} {Q : Value → Shared → Prop} {E : Value → Shared → Prop}
    (hi : (evalEachOpt ks env).zip ((evalEach vs env).map fun v => do let x ← v; standAt dp; pure x) = m.map fun p => it (pT dp p)) (hm : m = c ++ cs.flatten ++ r) (hn : (m.map (·.1)).Nodup)
    (hl2 : 2 ≤ l.length) (hc : c.length = 17) (hcs : ∀ c ∈ cs, c.length = 17) (hr : r.length ≤ 15) (hr0 : r ≠ []) (hz : (c ++ cs.flatten ++ r).length ≤ 1000)
    (ha : l.length = a) (hh : l ++ dO (entL tk (c ++ cs.flatten) ++ entS (tk + 3 * (c ++ cs.flatten).length) r) :: (subsL (tk + 3 * c.length) cs ++ [dO (entS (tk + 3 * (c ++ cs.flatten).length) r)]) = l')
    (ht : tk + 3 * (c ++ cs.flatten ++ r).length = tk') (h : Q (.ref a) { heap := hl l' boot_life, gens := Array.mk [], drawn := boot_drawn, toks := tk', os := os }) : wpAny (model pw w) arX (eval (.Dict ks vs dp) env) Q E { heap := hl l boot_life, gens := Array.mk [], drawn := boot_drawn, toks := tk, os := os } := by
  rw [arm_eval_Dict, hi]
  refine wpAny_bind (wpAny_standAt ?_)
  subst hm
  refine display (s := { heap := hl l boot_life, gens := Array.mk [], drawn := boot_drawn, toks := tk, os := os }) (life := boot_life) hl2 hc hcs hr hr0 hn hz ?_
  rw [ha, hh, ht]
  exact h

theorem dictOk (w : World) (os : OsState) (Q : Value → Shared → Prop) (E : Value → Shared → Prop) (h : Q (.ref 111) (SH0 w.params os).abs) :
    wpAny (model pw w) arX (eval (.Dict b3E.1 b3E.2 asg17.2.1) envT) Q E (SG w.params os).abs := by
  have sh := shape17
  simp only [Bool.and_eq_true, decide_eq_true_eq, List.all_eq_true, Bool.not_eq_true'] at sh
  obtain ⟨⟨⟨⟨s1, s2⟩, s3⟩, s4⟩, s5⟩ := sh
  rw [SG_heap]
  rw [SH0_heap] at h
  have g1 : (kv.map (·.1)).Nodup := nodup_of_rising _ kv_rising
  have g2 : 2 ≤ ((treeG w.params).list 111).length := by rw [len17]; (first | lia | omega)
  have g3 : kr ≠ [] := by intro q; rw [q] at s4; cases s4
  with_reducible refine dict_gen (w := w) (env := envT) (os := os) (ks := b3E.1) (vs := b3E.2) (dp := asg17.2.1) (l := (treeG w.params).list 111) (tk := 386) (a := 111) (l' := (treeH0 w.params).list 150) (tk' := 2336) (m := kv) (c := kc) (cs := kcs) (r := kr) (Q := Q) (E := E) ?a1 ?a2 ?a3 ?a4 ?a5 ?a6 ?a7 ?a8 ?a9 ?a10 ?a11 ?a12 ?a13
  case a1 => exact items17
  case a2 => exact kv_parts
  case a3 => exact g1
  case a4 => exact g2
  case a5 => exact s1
  case a6 => exact s2
  case a7 => exact s3
  case a8 => exact g3
  case a9 => exact s5
  case a10 => exact len17 _
  case a11 => exact heap17 _
  case a12 => exact toks17
  case a13 => exact h

theorem step_ev {w : World} {l r : List Stmt} {p p' : Pos} {s s' : SharedT} {n : Nat} {Q : Flow → Pos → Shared → Prop} {E : Value → Pos → Shared → Prop}
    (h : (ev denQ pw w n).tree Flow cx1 (execs l envT) p s = some (.ok .next, p', s')) (k : Sem.wp (model pw w) cx1 (execs r envT) Q E p' s'.abs) : Sem.wp (model pw w) cx1 (execs (l ++ r) envT) Q E p s.abs :=
  wp_execs_app _ _ _ _ _ (wp_ev h ⟨rfl, k⟩)

theorem stmt_gen {w : World} {sw : Sem Bool} {dt : Sem Value} {tl : Value → Sem Flow} {alt : Sem Flow} {pos p p' : Pos} {s s1 s' : SharedT} {v : Value} {n m : Nat} {Q : Flow → Pos → Shared → Prop} {E : Value → Pos → Shared → Prop}
    (hsw : ∀ p, (ev denQ pw w n).tree Bool cx1 sw p s = some (.ok false, p, s)) (hdt : wpAny (model pw w) arX dt (fun a r => a = v ∧ r = s1.abs) (fun _ _ => False) s.abs)
    (htl : ∀ p, (ev denQ pw w m).tree Flow cx1 (tl v) p s1 = some (.ok .next, p', s')) (h : Q .next p' s'.abs) :
    Sem.wp (model pw w) cx1 (do
      standAt pos
      if ← sw then alt
      else do
        let v ← dt
        tl v) Q E p s.abs := by
  rw [Sem.wp_bind']
  unfold standAt
  rw [Sem.wp_at, Sem.wp_pure, Sem.wp_bind']
  refine wp_ev (hsw _) ?_
  simp only [Bool.false_eq_true, if_false]
  rw [Sem.wp_bind']
  refine Sem.wp_mono _ _ _ (fun a p' s' ha => ?_) (fun _ _ _ hF => hF.elim) _ _ (hdt cx1 pos cx1_in)
  obtain ⟨rfl, rfl⟩ := ha
  exact wp_ev (htl p') h

theorem stmt17 (w : World) (os : OsState) (Q : Flow → Pos → Shared → Prop) (E : Value → Pos → Shared → Prop) (p : Pos) (h : Q .next posH (SH w.params os).abs) :
    Sem.wp (model pw w) cx1 (exec (.Assign asg17.1 (.Dict b3E.1 b3E.2 asg17.2.1) asg17.2.2) envT) Q E p (SG w.params os).abs := by
  rw [exec17]
  with_reducible exact stmt_gen (fun p => swapOk w os p) (dictOk w os (fun v s => v = .ref 111 ∧ s = (SH0 w.params os).abs) (fun _ _ => False) ⟨rfl, rfl⟩) (fun p => tailOk w os p) h

theorem body_wp (w : World) (os : OsState) (Q : Flow → Pos → Shared → Prop) (E : Value → Pos → Shared → Prop) (h : Q .next posI (SI w.params os).abs) :
    Sem.wp (model pw w) cx1 (execs topB envT) Q E default (SB w.params os).abs := by
  rw [topB_parts]
  with_reducible refine step_ev (evE w os) (step_ev (evF w os) (step_ev (evG w os) (wp_execs_app _ _ _ _ _ ?_)))
  rw [st17, execs, Sem.wp_bind']
  with_reducible refine stmt17 w os _ _ _ ?_
  show Sem.wp _ _ (execs [] envT) _ _ _ _
  rw [execs, Sem.wp_pure']
  exact ⟨rfl, by with_reducible exact wp_ev (evI w os) h⟩
end
end
-- HeadJ
section
noncomputable section

theorem wp_run {M : Model} {Γ : Ctx} {c : Code} {Q : Flow → Pos → Shared → Prop} {E : Value → Pos → Shared → Prop} {p : Pos} {s : Shared}
    (h : Sem.wp M (Γ.enter c none p) (M.den c) (Sem.finPost M (Γ.enter c none p) fun r s' => match r with | .ok f => Q f p s' | .error e => E e p s') (fun e _ s' => E e p s') p s) : Sem.wp M Γ (run c) Q E p s := by
  unfold run
  rw [Sem.wp_call, wpCode_iff_wp]
  refine Sem.wp_mono _ _ _ (fun f p' s' hf => ?_) (fun e p' s' he => ?_) _ _ h
  · cases f with
    | done f => exact hf
    | again c' =>
      refine ⟨hf.1, wpCode_mono (fun r s' hr => ?_) hf.2⟩
      cases r with
      | ok f => exact hr
      | error e => exact hr
  · exact he

theorem wp_body {w : World} {Γ : Ctx} {b : List Stmt} {env : Env} {Q : Flow → Pos → Shared → Prop} {E : Value → Pos → Shared → Prop} {p : Pos} {s : Shared}
    (h : Sem.wp (model pw w) (Γ.enter (.body b env) none p) (blockStart b env) (fun _ p' s' => Sem.wp (model pw w) (Γ.enter (.body b env) none p) (execs b env) (fun f _ s'' => Q f p s'') (fun _ _ _ => False) p' s') (fun _ _ _ => False) p s) :
    Sem.wp (model pw w) Γ (run (.body b env)) Q E p s := by
  refine wp_run ?_
  show Sem.wp (model pw w) _ ((blockStart b env).bind (fun _ => ((execs b env).onRaise (leaving env)).bind fun f => (Sem.pure (Fin.done f) : Sem Fin))) _ _ _ _
  rw [Sem.wp_bind]
  refine Sem.wp_mono _ _ _ (fun _ p' s' h' => ?_) (fun _ _ _ h' => h'.elim) _ _ h
  rw [Sem.wp_bind, Sem.wp_onRaise]
  refine Sem.wp_mono _ _ _ (fun f p'' s'' h'' => ?_) (fun _ _ _ h' => h'.elim) _ _ h'
  exact h''

theorem top_gen {w : World} {t : Sem (Value × Addr)} {f : Value × Addr → Sem Flow} {x : Value × Addr} {p : Pos} {s s1 : SharedT} {r : Shared} {n : Nat} {R : Result → Shared → Prop}
    (h1 : (ev denQ pw w n).tree (Value × Addr) cx0 t p s = some (.ok x, p, s1)) (h2 : Sem.wp (model pw w) cx0 (f x) (fun _ _ s' => s' = r) (fun _ _ _ => False) p s1.abs) (hR : R (.ok (.ret .none)) r) :
    Sem.wp (model pw w) cx0 (t >>= fun x => f x >>= fun _ => (ret .none : Sem Fin)) (Sem.finPost (model pw w) cx0 R) (fun e _ s' => R (.error e) s') p s.abs := by
  rw [Sem.wp_bind']
  refine wp_ev h1 ?_
  rw [Sem.wp_bind']
  refine Sem.wp_mono _ _ _ (fun f p' s' hf => ?_) (fun _ _ _ hF => hF.elim) _ _ h2
  subst hf
  exact hR

theorem env_is : envOfT (.ref 13, 14) = envT := rfl
theorem cx1_is : cx0.enter (.body topB envT) none default = cx1 := rfl
theorem noClean (w : World) (os : OsState) : leftWithCleanup (SI w.params os).abs.gens = false := by
  show leftWithCleanup (Array.mk []) = false
  simp [leftWithCleanup]

theorem top_wp (w : World) (os : OsState) : Sem.wp (model pw w) cx0 topT (Sem.finPost (model pw w) cx0 fun r s' => (r = .ok (.ret .none) ∧ s' = (SI w.params os).abs) ∧ leftWithCleanup s'.gens = false)
    (fun e _ s' => ((Except.error e : Result) = .ok (.ret .none) ∧ s' = (SI w.params os).abs) ∧ leftWithCleanup s'.gens = false) default (S0 w.params os).abs := by
  rw [topT_is]
  have hb : Sem.wp (model pw w) cx0 (run (.body topB (envOfT (.ref 13, 14)))) (fun _ _ s' => s' = (SI w.params os).abs) (fun _ _ _ => False) default (SP w.params os).abs := by
    rw [env_is]
    refine wp_body ?_
    rw [cx1_is]
    refine wp_ev (blockOk w os) ?_
    with_reducible refine body_wp w os _ _ ?_
    rfl
  with_reducible exact top_gen (R := fun r s' => (r = .ok (.ret .none) ∧ s' = (SI w.params os).abs) ∧ leftWithCleanup s'.gens = false) (preOk w os) hb ⟨⟨rfl, rfl⟩, noClean w os⟩

theorem last_run {den : Code → Sem Fin} {p : Program} {w : World} : ∀ {n : Nat} {s s' : Shared} {t : Thread} {o : Outcome}, runN den p w n s t = .halted o s' →
    ∃ m s₁ t₁, runN den p w m s t = .running s₁ t₁ ∧ step den p w s₁ t₁ = .halt o s'
  | 0, _, _, _, _, h => by cases h
  | n + 1, s, s', t, o, h => by
    simp only [runN] at h
    cases hs : step den p w s t with
    | go s₂ t₂ =>
      rw [hs] at h
      obtain ⟨m, s₁, t₁, h1, h2⟩ := last_run h
      exact ⟨m + 1, s₁, t₁, by simp only [runN, hs]; exact h1, h2⟩
    | halt o₂ s₂ =>
      rw [hs] at h
      cases h
      exact ⟨0, s, t, rfl, hs⟩

theorem through_of_halt {den : Code → Sem Fin} {p : Program} {w : World} {s s' : Shared} {t : Thread} {f : Flow} (h : step den p w s t = .halt (.done f) s') : through t = true := by
  obtain ⟨heap, gens, drawn, toks, os⟩ := s
  obtain ⟨cur, code, pos, stack⟩ := t
  cases cur with
  | pure fin =>
    cases fin with
    | done f =>
      cases stack with
      | nil => rfl
      | cons F r => cases F <;> simp [step] at h
    | again c => simp [step] at h
  | raise e =>
    cases stack with
    | nil => simp only [step, finish] at h; split at h <;> cases h
    | cons F r => cases F <;> simp [step] at h
  | finish e => simp only [step, finish] at h; split at h <;> cases h
  | _ => simp only [step] at h; (repeat' split at h) <;> cases h

theorem top_sched (w : World) (os : OsState) (hz : (S0 w.params os).abs.asleep) : ∃ n t, schedN (denote table) pw w n (.single (S0 w.params os).abs (topStub pw)) = .running (.single (SI w.params os).abs t) ∧ through t = true := by
  have hw := top_wp w os
  obtain ⟨n, r, s', hn, ⟨⟨rfl, rfl⟩, hg⟩⟩ := (wp_iff_halts (M := model pw w) (c := .builtin "claim.caller" {}) topT (fun r s' => (r = .ok (.ret .none) ∧ s' = (SI w.params os).abs) ∧ leftWithCleanup s'.gens = false) default _).mp
    (Sem.wp_mono _ _ _ (fun f p' s' hf => by
      cases f with
      | done f => exact ⟨hf, hf.2⟩
      | again c => exact ⟨hf.1, wpCode_mono (fun r s' hr => ⟨hr, hr.2⟩) hf.2⟩) (fun _ _ _ he => ⟨he, he.2⟩) _ _ hw)
  obtain ⟨s₂, hr, hf, hc⟩ := runNI_real _ _ _ hn (outcomeOf_ends _)
  have hgens : (SI w.params os).abs.gens = #[] := rfl
  obtain rfl : s₂ = (SI w.params os).abs := Shared.eq_of_forget_eq hf hgens
  obtain ⟨m, s₁, t₁, h1, h2⟩ := last_run hr
  have e := step_halt_same _ _ _ _ _ _ _ h2
  have hne : ∀ k s₂, runN (denote table) pw w k (S0 w.params os).abs (topStub pw) ≠ .halted (.unsupported "lifetime:generator-with-cleanup-left-suspended") s₂ := by
    intro k s₂ hk
    have a := runN_mono (denote table) pw w n k _ _ _ _ hr
    have b := runN_mono (denote table) pw w k n _ _ _ s₂ hk
    rw [Nat.add_comm] at a
    have := a.symm.trans b
    cases this
  refine ⟨m, t₁, ?_, through_of_halt h2⟩
  rw [e]
  exact (schedN_eq_runN (denote table) pw w _ (topStub pw) hz ⟨hc, hne⟩ m).trans (congrArg Run.lift h1)
end
end
-- HeadK
section
noncomputable section

noncomputable def keepL : List Nat := [1, 2, 4, 5, 6, 7, 8, 9, 10, 11, 12, 13, 15, 16, 18, 19, 21, 22, 23, 24, 25, 27, 28, 29, 30, 31, 32]
noncomputable def qv : Program := { pw with main := { pw.main with body := keepL.map stA } }
noncomputable def looseX : List PySem.Str := [sS [67, 79, 77, 80, 73, 76, 69, 82, 95, 70, 76, 65, 71, 95, 78, 65, 77, 69, 83], sS [98, 49, 95, 115, 101, 116], sS [98, 51, 95, 101, 120, 99, 101, 112, 116, 105, 111, 110, 115]]
noncomputable def modsX : List PySem.Str := importedModules pw.main.body
theorem mods_nil : modsX = [] := by kernel_rfl
noncomputable def XT : Shared → Bool := xlAt qv []

theorem h_isNs (P : Params) (os : OsState) : (S0 P os).abs.heap.isNs mainGlobals = true := by kernel_rfl
theorem l_statics (P : Params) (os : OsState) : staticsOk [] (S0 P os).abs.heap (SI P os).abs.heap = true := by kernel_rfl
theorem l_names (P : Params) (os : OsState) : namesBound pw (SI P os).abs.heap = true := by kernel_rfl
theorem l_laid (P : Params) (os : OsState) : laidKept (S0 P os).abs.heap (SI P os).abs.heap = true := by kernel_rfl
theorem l_chains : chainsOk qv = true := by kernel_rfl
theorem o1 (P : Params) (os : OsState) : seen ((recsOf qv).map (·.name)) (ownsOf qv) [] { (SI P os).abs with gens := #[] } = expectedOf qv := by kernel_rfl
theorem o2 (P : Params) (os : OsState) : (SI P os).abs.heap.bltView = bltViewBooted := by kernel_rfl
theorem o3k (P : Params) (os : OsState) : (SI P os).abs.heap.keysOk (looseW qv looseX) ((recsOf qv).map (·.name)) ((litsOf qv).map (·.1)) ((clssOf qv (looseW qv looseX)).map (·.name)) = true := by kernel_rfl
theorem o3a (P : Params) (os : OsState) : (SI P os).abs.heap.accountedOkI [] = true := by kernel_rfl
theorem o3m (P : Params) (os : OsState) : (SI P os).abs.heap.isNs mainGlobals = true := by kernel_rfl
theorem o3b (P : Params) (os : OsState) : (SI P os).abs.heap.isNs builtinsNs = true := by kernel_rfl
theorem o3t (P : Params) (os : OsState) : tablesOk qv (SI P os).abs.heap = true := by kernel_rfl
theorem o3x (P : Params) (os : OsState) : XT (SI P os).abs = true := by kernel_rfl
theorem o4 (P : Params) (os : OsState) : tabsOk qv (SI P os).abs = true := by kernel_rfl
theorem o5 (P : Params) (os : OsState) : pinSeenD qv (drecsOf qv) (SI P os).abs = pinGoodD (drecsOf qv) := by kernel_rfl
theorem o6 (P : Params) (os : OsState) : plainSeenE qv (looseW qv looseX) (SI P os).abs = plainGoodE qv (looseW qv looseX) := by kernel_rfl
theorem o7 (P : Params) (os : OsState) : plainSeenD qv looseX (SI P os).abs = plainGoodD qv looseX := by kernel_rfl
theorem o8 (P : Params) (os : OsState) : wideSeen qv (SI P os).abs = wideGood qv := by kernel_rfl
theorem o9 (P : Params) (os : OsState) : clsSeenW qv looseX (SI P os).abs = clsGoodW qv looseX := by kernel_rfl
theorem k_addr (P : Params) : kAs = (kF P).map (·.1) := by kernel_rfl
theorem k_objs (P : Params) (os : OsState) : kAs.map (SI P os).abs.heap.get? = (kF P).map fun p => some p.2 := by kernel_rfl
end
end
-- HeadL
section
noncomputable section

theorem open_is : opening pw = plainProg pw.main.scope.names := by kernel_rfl
theorem fence_is (s : Shared) : fenceModules? pw s = some s := by kernel_rfl

theorem sees (w : World) (os : OsState) : openSeen qv looseX [] XT true (SI w.params os).abs = openGood qv looseX := by
  unfold openSeen openGood
  rw [o1, o2, o3k, o3a, o3m, o3b, o3t, o3x, o4, o5, o6, o7, o8, o9]
  rfl

theorem low11 : ∀ n : Nat, n < 11 → n ≠ 3 → n ∈ ([0, 1, 2, 4, 5, 6, 7, 8, 9, 10] : List Nat) := by decide
theorem kept0 (P : Params) (os : OsState) (b : Nat) (o : Obj) (h : (S0 P os).abs.heap.get? b = some o) (hn : b ≠ mainNs) : (SI P os).abs.heap.get? b = some o := by
  have lt : (b : Nat) < 11 := by
    have := Heap.lt_size h
    rwa [show (S0 P os).abs.heap.objs.size = 11 from absHeap_size _ _ _] at this
  have e : ∀ c ∈ [0, 1, 2, 4, 5, 6, 7, 8, 9, 10], (SI P os).abs.heap.get? c = (S0 P os).abs.heap.get? c := by
    intro c hc
    simp only [List.mem_cons, List.not_mem_nil, or_false] at hc
    rcases hc with rfl | rfl | rfl | rfl | rfl | rfl | rfl | rfl | rfl | rfl <;> kernel_rfl
  rw [e b ?_]
  · exact h
  · exact low11 b lt hn

theorem behindX {XP : (PySem.Str → Option Value) → Heap → Prop} (hX : ∀ s, XT s = true → XP (s.heap.nsMap mainGlobals) s.heap) (w : World) :
    (∃ s, AfterRun (opening pw) w s) ∧ ∀ s, AfterRun (opening pw) w s → ∃ s₀, fenceModules? pw s = some s₀ ∧ s₀.gens = #[] ∧ ∃ s₁, TopRan pw w s₀ s₁ ∧ s₁.asleep ∧ s₁.gens = #[] ∧ s₁.heap.isNs mainGlobals = true ∧
      Ground qv looseX [] XP w s₁ (s₁.heap.nsMap mainGlobals) (s₁.heap.nsMap builtinsNs) s₁.heap ∧ (kF w.params).In s₁.heap := by
  have hb := boot_open (N := 600) open_is rfl fence_is w
  rw [← table_eq_tree] at hb
  obtain ⟨s₀, h2, h3⟩ := Option.map_eq_some_iff.mp hb
  obtain ⟨s, h4, h5⟩ := Option.bind_eq_some_iff.mp h2
  have A := AfterImport.of_importEnds h4
  refine ⟨⟨s, A⟩, fun s' hs' => ?_⟩
  obtain rfl : s' = s := AfterImport.unique hs' A
  have z : s₀.asleep := Shared.asleep_of_life (fence_lifeW h5) A.life
  obtain ⟨hh, hg, hd, hk, os⟩ := s₀
  simp only [Prod.mk.injEq] at h3
  obtain ⟨rfl, rfl, rfl, rfl⟩ := h3
  rw [← S0_heap] at z h5
  obtain ⟨n, t, hrun, hthr⟩ := top_sched w os z
  obtain ⟨G, g0, g1, g2, g3, g4, g5⟩ := ground_of_open (mods := []) (w := w) hX l_chains (sees w os)
  refine ⟨(S0 w.params os).abs, h5, rfl, (SI w.params os).abs, ⟨⟨n, t, hrun, hthr⟩, rfl, Shared.rest_eq rfl, fun b o hb hn => kept0 w.params os b o hb (fun q => hn (.inl q)), ?_, ?_, g3, g4, g5, ?_, names_of_bound (l_names w.params os), laid_of_kept (l_laid w.params os)⟩,
    Shared.asleep_of_life rfl z, rfl, g1, G, Frag.in_of (k_addr w.params) (k_objs w.params os)⟩
  · rw [show importedModules pw.main.body = [] from mods_nil]; exact g2
  · rw [show importedModules pw.main.body = [] from mods_nil]; exact statics_of_ok (l_statics w.params os)
  · intro g hg; exact absurd hg (by show ¬ g ∈ (Array.mk [] : Array GenState); simp)
end
end
-- HeadM
section
noncomputable section

theorem open_from {r : OpenRow} {q : Program} {loose : List PySem.Str} {XP : (PySem.Str → Option Value) → Heap → Prop} {YP : World → Heap → Prop} {d : DefRec} {kwd : List (PySem.Str × Expr)}
    (behind : ∀ w : World, (∃ s, AfterRun (opening r.prog) w s) ∧ ∀ s, AfterRun (opening r.prog) w s → ∃ s₀, fenceModules? r.prog s = some s₀ ∧ s₀.gens = #[] ∧ ∃ s₁, TopRan r.prog w s₀ s₁ ∧ s₁.asleep ∧ s₁.gens = #[] ∧ s₁.heap.isNs mainGlobals = true ∧
      Ground q loose [] XP w s₁ (s₁.heap.nsMap mainGlobals) (s₁.heap.nsMap builtinsNs) s₁.heap ∧ YP w s₁.heap)
    (hYk : ∀ w h h', YP w h → (∀ b o, h.get? b = some o → h'.get? b = some o) → YP w h') (hXk : ∀ mg h h', XP mg h → (∀ b o, h.get? b = some o → h'.get? b = some o) → XP mg h')
    (hdef : defOf q r.name = some (d, kwd)) (hp : r.prog.theDef r.name = some (d.params, d.body, d.scope)) (hk : kwWritten? d.params.kwonlyargs d.params.kw_defaults = some kwd)
    (hR : r.records = []) (k1 : r.wellSaid = true) (ok1 : opensWell r.prog = true) (ok2 : (frees r.toRowW && r.within.isEmpty) = true) (hb : r.prog.bare) (hw : r.toRowW.promised)
    (walk : WalkO q loose XP YP r.toRowW d kwd fun f vs => PySem.call f vs) : r.Holds := by
  obtain ⟨k5, k6⟩ := Bool.and_eq_true_iff.mp ok2
  obtain ⟨hsame, hu, ha, hap, hm⟩ := frees_parts k5
  have RF : ∀ h : Heap, RecFacts r.records h := fun h => recFacts_nil hR
  refine ⟨k1, hw, ⟨hb, ok1, by show r.makers.map _ = []; rw [hm]; rfl⟩, hw.witness, fun w => ⟨(behind w).1, fun s' hs' => ?_⟩⟩
  obtain ⟨s₀, hf, hg0, s, hT, hz, hgens, hg, G0, y⟩ := (behind w).2 s' hs'
  refine ⟨s₀, hf, hg0, s, hT, fun n hn => ?_, (RF _).1, (RF _).2.1, ?_⟩
  · obtain rfl : n = r.name := by split at hn <;> simp_all
    exact pinned_of_view hg G0 hdef hp hk
  have G : Ground q loose r.records XP w s _ _ s.heap := (RF _).ground G0
  refine ClaimW.callFrom_of_specG (c := r.claim) (tree := fun vs => do match ← nsGet mainNs r.name with
      | some f => do ret (← PySem.call f vs)
      | none => unsupported "claim.caller:no-such-global") hz hgens fun args hpre hlay ord hord => ?_
  obtain ⟨⟨vs, s₁⟩, hlaid⟩ := Option.isSome_iff_exists.mp (layAllW_isSome (P := w.params) (ord := ord) G.has args r.args s (pre_splitW hpre).1)
  have keeps := layAllW_keeps _ _ _ hlaid
  have hal := layAllW_rest _ _ _ hlaid
  obtain ⟨as, hrd, hin, hold⟩ := reads_layAllW hord _ _ _ hlaid hlay s₁.heap (fun _ _ e => e)
  have L : Laid r.records w s s₁ args vs as := ⟨⟨ord, hord, hlaid⟩, hrd, hin, hold, keeps, hal.1.trans hgens, hal.2.2.1⟩
  have G₁ := G.keeps hXk keeps
  obtain ⟨a, o, pm, cd, doc, dV, kV, h1, h2, h3, h4, h5⟩ := G₁.fn hdef
  have h := walk w s s₁ _ _ G₁ (hYk _ _ _ y keeps) a o pm cd doc dV kV h2 h3 h4 h5 (defOf_name hdef ▸ h1) L.gens args vs as hpre hlay L.reads L.well (L.low G.low)
  have hi := ident_freeW hu ha hap
  have hwi : r.claim.within = [] := List.isEmpty_iff.mp k6
  have hwr : (!r.writes || r.records.isEmpty) = true := by rw [hR]; simp
  refine ⟨vs, s₁, hlaid, ?_⟩
  refine wpAny_bind (wpAny_nsGet G₁.T.g ?_)
  rw [h1]
  refine wpAny_bind (wpAny_mono h (fun v s' g => ?_) fun e s' g => ?_)
  · have z := g.laid (c := r.claim) hsame hwi hi L
    exact wpAny_pure ⟨_, rfl, z.1, z.2.1, z.2.2, fun q => ⟨namesKept_of hT hg _ keeps g.2.1.old, noTable hwr q⟩⟩
  · have z := g.laid (c := r.claim) hsame hwi hi L
    exact ⟨z.1, z.2.1, z.2.2, fun q => ⟨namesKept_of hT hg _ keeps g.2.1.old, noTable hwr q⟩⟩
end
end
-- HeadN
section
noncomputable section

noncomputable def dPos (i : Nat) : Pos := match stA i with
  | .FunctionDef _ _ _ _ _ _ _ _ _ p => p
  | _ => default
noncomputable def dLaw : DefRec := { name := PySem.Str.ofString "law", params := fdP 32, body := fdB 32, scope := fdS 32, pos := dPos 32 }
abbrev rLaw : OpenRow := PySem.Challenge.rw_ta0077_01.row
abbrev XPx : (PySem.Str → Option Value) → Heap → Prop := XL qv []
abbrev YPx : World → Heap → Prop := fun w h => (kF w.params).In h
theorem def_law : defOf qv rLaw.name = some (dLaw, []) := by kernel_rfl
theorem the_law : pw.theDef rLaw.name = some (dLaw.params, dLaw.body, dLaw.scope) := by kernel_rfl
theorem kw_law : kwWritten? dLaw.params.kwonlyargs dLaw.params.kw_defaults = some [] := by kernel_rfl
theorem wells : opensWell pw = true := by kernel_rfl
theorem free_law : (frees rLaw.toRowW && rLaw.within.isEmpty) = true := by kernel_rfl
theorem bare_law : pw.bare := ⟨rfl, rfl, rfl, rfl, rfl, by decide +kernel⟩

theorem row_holds (k1 : rLaw.wellSaid = true) (hw : rLaw.toRowW.promised) (walk : WalkO qv looseX XPx YPx rLaw.toRowW dLaw [] fun f vs => PySem.call f vs) : rLaw.Holds :=
  open_from (XP := XPx) (YP := YPx) (behindX (fun s hs => xl_of s hs)) (fun _ _ _ x k => Frag.In.keeps x k) XL.keeps def_law the_law kw_law rfl k1 wells free_law bare_law hw walk

theorem wsaid : PySem.Challenge.rw_ta0077_01.wellSaid = true := by
  delta OpenLaw.wellSaid OpenRow.wellSaid OpenRow.partSaid looksOpen
  repeat' (with_reducible refine look_both ?_ ?_)
  all_goals decide +kernel
theorem law_of_walk (walk : WalkO qv looseX XPx YPx rLaw.toRowW dLaw [] fun f vs => PySem.call f vs) : PySem.Challenge.rw_ta0077_01.Holds := by
  refine PySem.W.holds_law (l := PySem.Challenge.rw_ta0077_01) wsaid fun said => ?_
  w_on
  refine row_holds (by assumption) ?hw walk
  case hw => w_witness2
end
end
-- WA
section
abbrev sL (l : List Nat) : PySem.Str := ⟨l.toArray⟩
/-- nothing that stood is changed -/
abbrev Kp (h h' : Heap) : Prop := ∀ b o, h.get? b = some o → h'.get? b = some o
/-- what is known of the text's top at a heap -/
noncomputable def GF (w : World) (h : Heap) : Prop := ∃ (s₀ : Shared) (mg mb : PySem.Str → Option Value), Ground qv looseX [] XPx w s₀ mg mb h ∧ (kF w.params).In h
theorem GF.keeps {w : World} {h h' : Heap} (g : GF w h) (k : Kp h h') : GF w h' := let ⟨s₀, mg, mb, G, X⟩ := g; ⟨s₀, mg, mb, G.keeps XL.keeps k, X.keeps k⟩

abbrev GLt (mg mb : PySem.Str → Option Value) (h : Heap) : Prop := Glob 0 mg mb (List.map itemOf (recsOf qv)) (constsW qv) [] (namesW qv looseX) h
theorem names_ok : namesOk qv (looseW qv looseX) (namesW qv looseX) = true := by kernel_rfl
theorem imports_no : importsNone qv = true := by kernel_rfl
theorem GF.open {w : World} {h : Heap} (g : GF w h) : ∃ (s₀ : Shared) (mg mb : PySem.Str → Option Value), Top qv (looseW qv looseX) (ExcName.means s₀.heap) mg mb h ∧ GLt mg mb h ∧ (kF w.params).In h := by
  obtain ⟨s₀, mg, mb, G, X⟩ := g
  exact ⟨s₀, mg, mb, G.T, Ground.glob G names_ok imports_no, X⟩

/-- a def of the top as the written part has it -/
theorem fn_at {w : World} {h : Heap} (g : GF w h) {i a c : Nat} {nm : PySem.Str} {pm : Value} (e : (kF w.params).lookup a = some ⟨.type "function", none, .func (docDef nm (fdP i) (fdB i) (fdS i) pm (.ref c) .none), Array.mk []⟩)
    (ec : codeIn (kF w.params) (.ref c) nm = true) : ∃ o : Obj, h.get? a = some o ∧ o.data = .func (docDef nm (fdP i) (fdB i) (fdS i) pm (.ref c) .none) ∧ h.CodeRec (.ref c) nm :=
  let ⟨_, _, _, _, X⟩ := g; ⟨_, X _ _ e, rfl, codeRec_of X ec⟩

noncomputable def pmdis : Value := .str (sS [99, 112, 121, 51, 49, 51, 46, 100, 105, 115]) 187
noncomputable def pmop : Value := .str (sS [99, 112, 121, 51, 49, 51, 46, 111, 112, 101, 114, 97, 116, 111, 114]) 230
noncomputable def pmsp : Value := .str (sS [99, 112, 121, 51, 49, 51, 46, 115, 116, 114, 105, 110, 103, 112, 114, 101, 112]) 317
noncomputable def pmtb : Value := .str (sS [99, 112, 121, 51, 49, 51, 46, 116, 114, 97, 99, 101, 98, 97, 99, 107]) 2352
noncomputable def pmlw : Value := .str (sS [108, 97, 119, 95, 116, 97, 48, 48, 55, 55, 95, 48, 49]) 2388
theorem k_prettyflags (P : Params) : (kF P).lookup 22 = some ⟨.type "function", none, .func (docDef (PySem.Str.ofString "pretty_flags") (fdP 2) (fdB 2) (fdS 2) pmdis (.ref 21) .none), Array.mk []⟩ := by kernel_rfl
theorem c_prettyflags (P : Params) : codeIn (kF P) (.ref 21) (PySem.Str.ofString "pretty_flags") = true := by kernel_rfl
theorem n_prettyflags (P : Params) : nsIn (kF P) mainGlobals (PySem.Str.ofString "pretty_flags") = some (some (.ref 22)) := by kernel_rfl
theorem k_le (P : Params) : (kF P).lookup 29 = some ⟨.type "function", none, .func (docDef (PySem.Str.ofString "le") (fdP 4) (fdB 4) (fdS 4) pmop (.ref 28) .none), Array.mk []⟩ := by kernel_rfl
theorem c_le (P : Params) : codeIn (kF P) (.ref 28) (PySem.Str.ofString "le") = true := by kernel_rfl
theorem n_le (P : Params) : nsIn (kF P) mainGlobals (PySem.Str.ofString "le") = some (some (.ref 29)) := by kernel_rfl
theorem k_eq (P : Params) : (kF P).lookup 36 = some ⟨.type "function", none, .func (docDef (PySem.Str.ofString "eq") (fdP 5) (fdB 5) (fdS 5) pmop (.ref 35) .none), Array.mk []⟩ := by kernel_rfl
theorem c_eq (P : Params) : codeIn (kF P) (.ref 35) (PySem.Str.ofString "eq") = true := by kernel_rfl
theorem n_eq (P : Params) : nsIn (kF P) mainGlobals (PySem.Str.ofString "eq") = some (some (.ref 36)) := by kernel_rfl
theorem k_lshift (P : Params) : (kF P).lookup 43 = some ⟨.type "function", none, .func (docDef (PySem.Str.ofString "lshift") (fdP 6) (fdB 6) (fdS 6) pmop (.ref 42) .none), Array.mk []⟩ := by kernel_rfl
theorem c_lshift (P : Params) : codeIn (kF P) (.ref 42) (PySem.Str.ofString "lshift") = true := by kernel_rfl
theorem n_lshift (P : Params) : nsIn (kF P) mainGlobals (PySem.Str.ofString "lshift") = some (some (.ref 43)) := by kernel_rfl
theorem k_neg (P : Params) : (kF P).lookup 50 = some ⟨.type "function", none, .func (docDef (PySem.Str.ofString "neg") (fdP 7) (fdB 7) (fdS 7) pmop (.ref 49) .none), Array.mk []⟩ := by kernel_rfl
theorem c_neg (P : Params) : codeIn (kF P) (.ref 49) (PySem.Str.ofString "neg") = true := by kernel_rfl
theorem n_neg (P : Params) : nsIn (kF P) mainGlobals (PySem.Str.ofString "neg") = some (some (.ref 50)) := by kernel_rfl
theorem k_or (P : Params) : (kF P).lookup 57 = some ⟨.type "function", none, .func (docDef (PySem.Str.ofString "or_") (fdP 8) (fdB 8) (fdS 8) pmop (.ref 56) .none), Array.mk []⟩ := by kernel_rfl
theorem c_or (P : Params) : codeIn (kF P) (.ref 56) (PySem.Str.ofString "or_") = true := by kernel_rfl
theorem n_or (P : Params) : nsIn (kF P) mainGlobals (PySem.Str.ofString "or_") = some (some (.ref 57)) := by kernel_rfl
theorem k_concat (P : Params) : (kF P).lookup 64 = some ⟨.type "function", none, .func (docDef (PySem.Str.ofString "concat") (fdP 9) (fdB 9) (fdS 9) pmop (.ref 63) .none), Array.mk []⟩ := by kernel_rfl
theorem c_concat (P : Params) : codeIn (kF P) (.ref 63) (PySem.Str.ofString "concat") = true := by kernel_rfl
theorem n_concat (P : Params) : nsIn (kF P) mainGlobals (PySem.Str.ofString "concat") = some (some (.ref 64)) := by kernel_rfl
theorem k_countOf (P : Params) : (kF P).lookup 71 = some ⟨.type "function", none, .func (docDef (PySem.Str.ofString "countOf") (fdP 10) (fdB 10) (fdS 10) pmop (.ref 70) .none), Array.mk []⟩ := by kernel_rfl
theorem c_countOf (P : Params) : codeIn (kF P) (.ref 70) (PySem.Str.ofString "countOf") = true := by kernel_rfl
theorem n_countOf (P : Params) : nsIn (kF P) mainGlobals (PySem.Str.ofString "countOf") = some (some (.ref 71)) := by kernel_rfl
theorem k_getitem (P : Params) : (kF P).lookup 78 = some ⟨.type "function", none, .func (docDef (PySem.Str.ofString "getitem") (fdP 11) (fdB 11) (fdS 11) pmop (.ref 77) .none), Array.mk []⟩ := by kernel_rfl
theorem c_getitem (P : Params) : codeIn (kF P) (.ref 77) (PySem.Str.ofString "getitem") = true := by kernel_rfl
theorem n_getitem (P : Params) : nsIn (kF P) mainGlobals (PySem.Str.ofString "getitem") = some (some (.ref 78)) := by kernel_rfl
theorem k_indexOf (P : Params) : (kF P).lookup 85 = some ⟨.type "function", none, .func (docDef (PySem.Str.ofString "indexOf") (fdP 12) (fdB 12) (fdS 12) pmop (.ref 84) .none), Array.mk []⟩ := by kernel_rfl
theorem c_indexOf (P : Params) : codeIn (kF P) (.ref 84) (PySem.Str.ofString "indexOf") = true := by kernel_rfl
theorem n_indexOf (P : Params) : nsIn (kF P) mainGlobals (PySem.Str.ofString "indexOf") = some (some (.ref 85)) := by kernel_rfl
theorem k_setitem (P : Params) : (kF P).lookup 92 = some ⟨.type "function", none, .func (docDef (PySem.Str.ofString "setitem") (fdP 13) (fdB 13) (fdS 13) pmop (.ref 91) .none), Array.mk []⟩ := by kernel_rfl
theorem c_setitem (P : Params) : codeIn (kF P) (.ref 91) (PySem.Str.ofString "setitem") = true := by kernel_rfl
theorem n_setitem (P : Params) : nsIn (kF P) mainGlobals (PySem.Str.ofString "setitem") = some (some (.ref 92)) := by kernel_rfl
theorem k_intableb1 (P : Params) : (kF P).lookup 110 = some ⟨.type "function", none, .func (docDef (PySem.Str.ofString "in_table_b1") (fdP 16) (fdB 16) (fdS 16) pmsp (.ref 109) .none), Array.mk []⟩ := by kernel_rfl
theorem c_intableb1 (P : Params) : codeIn (kF P) (.ref 109) (PySem.Str.ofString "in_table_b1") = true := by kernel_rfl
theorem n_intableb1 (P : Params) : nsIn (kF P) mainGlobals (PySem.Str.ofString "in_table_b1") = some (some (.ref 110)) := by kernel_rfl
theorem k_maptableb3 (P : Params) : (kF P).lookup 156 = some ⟨.type "function", none, .func (docDef (PySem.Str.ofString "map_table_b3") (fdP 18) (fdB 18) (fdS 18) pmsp (.ref 155) .none), Array.mk []⟩ := by kernel_rfl
theorem c_maptableb3 (P : Params) : codeIn (kF P) (.ref 155) (PySem.Str.ofString "map_table_b3") = true := by kernel_rfl
theorem n_maptableb3 (P : Params) : nsIn (kF P) mainGlobals (PySem.Str.ofString "map_table_b3") = some (some (.ref 156)) := by kernel_rfl
theorem k_intablec11 (P : Params) : (kF P).lookup 163 = some ⟨.type "function", none, .func (docDef (PySem.Str.ofString "in_table_c11") (fdP 19) (fdB 19) (fdS 19) pmsp (.ref 162) .none), Array.mk []⟩ := by kernel_rfl
theorem c_intablec11 (P : Params) : codeIn (kF P) (.ref 162) (PySem.Str.ofString "in_table_c11") = true := by kernel_rfl
theorem n_intablec11 (P : Params) : nsIn (kF P) mainGlobals (PySem.Str.ofString "in_table_c11") = some (some (.ref 163)) := by kernel_rfl
theorem k_substitutioncost (P : Params) : (kF P).lookup 170 = some ⟨.type "function", none, .func (docDef (PySem.Str.ofString "_substitution_cost") (fdP 24) (fdB 24) (fdS 24) pmtb (.ref 169) .none), Array.mk []⟩ := by kernel_rfl
theorem c_substitutioncost (P : Params) : codeIn (kF P) (.ref 169) (PySem.Str.ofString "_substitution_cost") = true := by kernel_rfl
theorem n_substitutioncost (P : Params) : nsIn (kF P) mainGlobals (PySem.Str.ofString "_substitution_cost") = some (some (.ref 170)) := by kernel_rfl
theorem k_levenshteindistance (P : Params) : (kF P).lookup 177 = some ⟨.type "function", none, .func (docDef (PySem.Str.ofString "_levenshtein_distance") (fdP 25) (fdB 25) (fdS 25) pmtb (.ref 176) .none), Array.mk []⟩ := by kernel_rfl
theorem c_levenshteindistance (P : Params) : codeIn (kF P) (.ref 176) (PySem.Str.ofString "_levenshtein_distance") = true := by kernel_rfl
theorem n_levenshteindistance (P : Params) : nsIn (kF P) mainGlobals (PySem.Str.ofString "_levenshtein_distance") = some (some (.ref 177)) := by kernel_rfl
theorem k_lawslip (P : Params) : (kF P).lookup 184 = some ⟨.type "function", none, .func (docDef (PySem.Str.ofString "_law_slip") (fdP 27) (fdB 27) (fdS 27) pmlw (.ref 183) .none), Array.mk []⟩ := by kernel_rfl
theorem c_lawslip (P : Params) : codeIn (kF P) (.ref 183) (PySem.Str.ofString "_law_slip") = true := by kernel_rfl
theorem n_lawslip (P : Params) : nsIn (kF P) mainGlobals (PySem.Str.ofString "_law_slip") = some (some (.ref 184)) := by kernel_rfl
theorem k_lawdrawn (P : Params) : (kF P).lookup 191 = some ⟨.type "function", none, .func (docDef (PySem.Str.ofString "_law_drawn") (fdP 28) (fdB 28) (fdS 28) pmlw (.ref 190) .none), Array.mk []⟩ := by kernel_rfl
theorem c_lawdrawn (P : Params) : codeIn (kF P) (.ref 190) (PySem.Str.ofString "_law_drawn") = true := by kernel_rfl
theorem n_lawdrawn (P : Params) : nsIn (kF P) mainGlobals (PySem.Str.ofString "_law_drawn") = some (some (.ref 191)) := by kernel_rfl
theorem k_lawtyped (P : Params) : (kF P).lookup 198 = some ⟨.type "function", none, .func (docDef (PySem.Str.ofString "_law_typed") (fdP 29) (fdB 29) (fdS 29) pmlw (.ref 197) .none), Array.mk []⟩ := by kernel_rfl
theorem c_lawtyped (P : Params) : codeIn (kF P) (.ref 197) (PySem.Str.ofString "_law_typed") = true := by kernel_rfl
theorem n_lawtyped (P : Params) : nsIn (kF P) mainGlobals (PySem.Str.ofString "_law_typed") = some (some (.ref 198)) := by kernel_rfl
theorem k_lawheard (P : Params) : (kF P).lookup 203 = some ⟨.type "function", none, .func (docDef (PySem.Str.ofString "_law_heard") (fdP 30) (fdB 30) (fdS 30) pmlw (.ref 202) .none), Array.mk []⟩ := by kernel_rfl
theorem c_lawheard (P : Params) : codeIn (kF P) (.ref 202) (PySem.Str.ofString "_law_heard") = true := by kernel_rfl
theorem n_lawheard (P : Params) : nsIn (kF P) mainGlobals (PySem.Str.ofString "_law_heard") = some (some (.ref 203)) := by kernel_rfl
theorem k_lawbysixteens (P : Params) : (kF P).lookup 210 = some ⟨.type "function", none, .func (docDef (PySem.Str.ofString "_law_by_sixteens") (fdP 31) (fdB 31) (fdS 31) pmlw (.ref 209) .none), Array.mk []⟩ := by kernel_rfl
theorem c_lawbysixteens (P : Params) : codeIn (kF P) (.ref 209) (PySem.Str.ofString "_law_by_sixteens") = true := by kernel_rfl
theorem n_lawbysixteens (P : Params) : nsIn (kF P) mainGlobals (PySem.Str.ofString "_law_by_sixteens") = some (some (.ref 210)) := by kernel_rfl
end
-- WB
section
theorem glob_guard {M : Model} {A : Around} {Q : Value → Shared → Prop} {E : Value → Shared → Prop} {s : Shared} {x : PySem.Str} {pos : Pos} {env : Env} (hx : env.kindOf x = some .globalImplicit)
    (h : wpAny M A (eval (.Name x pos) env) Q E s) : wpAny M A (eval (.Name x pos) env) Q E s := h
theorem fdivN (a b : Nat) : ((a : Int).fdiv (b : Int)) = ((a / b : Nat) : Int) := by
  rw [Int.fdiv_eq_ediv_of_nonneg _ (Int.natCast_nonneg b)]; exact (Int.natCast_ediv a b).symm
theorem fmodN (a b : Nat) : ((a : Int).fmod (b : Int)) = ((a % b : Nat) : Int) := by
  rw [Int.fmod_eq_emod_of_nonneg _ (Int.natCast_nonneg b)]; exact (Int.natCast_emod a b).symm

theorem sL_len (l : List Nat) : (sL l).length = l.length := by show l.toArray.size = _; simp
theorem sL_cps (x : PySem.Str) : sL x.cps.toList = x := by cases x; rfl
theorem sL_app (a b : List Nat) : sL a ++ sL b = sL (a ++ b) := by show PySem.Str.mk (a.toArray ++ b.toArray) = _; simp
theorem sL_inj {a b : List Nat} (h : sL a = sL b) : a = b := by
  have := congrArg (fun x : PySem.Str => x.cps.toList) h
  simpa using this

theorem slice_to (l : List Nat) (p : Nat) (h : p ≤ l.length) : Txt.slice (sL l) none (some (p : Int)) = sL (l.take p) := by
  have := slice_closes_to (x := sL l) (j := (p : Int)) ⟨Int.natCast_nonneg p, by show (p : Int) ≤ (l.toArray.toList.length : Int); simp; (first | lia | omega)⟩
  rw [eq_of_beq this]
  simp
theorem slice_from (l : List Nat) (p : Nat) (h : p ≤ l.length) : Txt.slice (sL l) (some (p : Int)) none = sL (l.drop p) := by
  have := slice_from_eq (x := sL l) (i := (p : Int)) (b := (l.length : Int)) (Int.natCast_nonneg p) (by rw [sL_len]; (first | lia | omega)) (by rw [sL_len])
  rw [this]
  have e : ((l.length : Int) - (p : Int)).toNat = l.length - p := by (first | lia | omega)
  simp only [Int.toNat_natCast, e]
  rw [List.take_of_length_le (by simp)]
end
-- WB2
section
theorem fd4 (n : Nat) : (n : Int).fdiv 4 = ((n / 4 : Nat) : Int) := fdivN n 4
theorem fm4 (n : Nat) : (n : Int).fmod 4 = ((n % 4 : Nat) : Int) := fmodN n 4
theorem fd80 (n : Nat) : (n : Int).fdiv 80 = ((n / 80 : Nat) : Int) := fdivN n 80
theorem fm26 (n : Nat) : (n : Int).fmod 26 = ((n % 26 : Nat) : Int) := fmodN n 26
theorem item_sL (l : List Nat) (p : Nat) (h : p < l.length) : Txt.item (sL l) (p : Int) = sL [l.getD p 0] := by
  rw [item_meets (n := l.getD p 0) (Int.natCast_nonneg p) (by show l.toArray[(p : Int).toNat]? = _; simp [h])]

/-- the slipped name -/
noncomputable def slip (name : List Nat) (n : Nat) : List Nat :=
  let place := n / 4 % name.length
  let letter := 97 + n / 80 % 26
  if n % 4 = 1 then name.take place ++ name.drop (place + 1)
  else if n % 4 = 2 then name.take place ++ [letter] ++ name.drop place
  else if n % 4 = 3 then name.take place ++ [if letter = name.getD place 0 then 95 else letter] ++ name.drop (place + 1)
  else name

section
variable {l : List Nat} {n : Nat} (h0 : 0 < (sL l).length)
include h0
theorem place_lt : n / 4 % l.length < l.length := Nat.mod_lt _ (by rwa [sL_len] at h0)
theorem slip_1 (c : (n : Int).fmod 4 = 1) : Txt.slice (sL l) none (some (((n : Int).fdiv 4).fmod (sL l).length)) ++ Txt.slice (sL l) (some (((n : Int).fdiv 4).fmod (sL l).length + 1)) none = sL (slip l n) := by
  have hp := place_lt (n := n) h0
  rw [fm4] at c
  have c' : n % 4 = 1 := by (first | lia | omega)
  rw [fd4, sL_len, fmodN, show ((n / 4 % l.length : Nat) : Int) + 1 = ((n / 4 % l.length + 1 : Nat) : Int) from rfl, slice_to _ _ (by (first | lia | omega)), slice_from _ _ (by (first | lia | omega)), sL_app]
  simp only [slip, c', if_true]
theorem slip_2 (c1 : (n : Int).fmod 4 ≠ 1) (c : (n : Int).fmod 4 = 2) : Txt.slice (sL l) none (some (((n : Int).fdiv 4).fmod (sL l).length)) ++ (⟨#[(97 + ((n : Int).fdiv 80).fmod 26).toNat]⟩ : PySem.Str) ++ Txt.slice (sL l) (some (((n : Int).fdiv 4).fmod (sL l).length)) none = sL (slip l n) := by
  have hp := place_lt (n := n) h0
  rw [fm4] at c
  have c' : n % 4 = 2 := by (first | lia | omega)
  rw [fd4, fd80, fm26, sL_len, fmodN, slice_to _ _ (by (first | lia | omega)), slice_from _ _ (by (first | lia | omega)), show (⟨#[(97 + ((n / 80 % 26 : Nat) : Int)).toNat]⟩ : PySem.Str) = sL [97 + n / 80 % 26] by rw [show (97 + ((n / 80 % 26 : Nat) : Int)).toNat = 97 + n / 80 % 26 by (first | lia | omega)], sL_app, sL_app]
  simp [slip, c']
theorem slip_3 (c1 : (n : Int).fmod 4 ≠ 1) (c2 : (n : Int).fmod 4 ≠ 2) (c : (n : Int).fmod 4 = 3) (ce : (⟨#[(97 + ((n : Int).fdiv 80).fmod 26).toNat]⟩ : PySem.Str) = Txt.item (sL l) (((n : Int).fdiv 4).fmod (sL l).length)) :
    Txt.slice (sL l) none (some (((n : Int).fdiv 4).fmod (sL l).length)) ++ PySem.Str.ofString "_" ++ Txt.slice (sL l) (some (((n : Int).fdiv 4).fmod (sL l).length + 1)) none = sL (slip l n) := by
  have hp := place_lt (n := n) h0
  rw [fm4] at c
  have c' : n % 4 = 3 := by (first | lia | omega)
  rw [fd4, fd80, fm26, sL_len, fmodN, show (⟨#[(97 + ((n / 80 % 26 : Nat) : Int)).toNat]⟩ : PySem.Str) = sL [97 + n / 80 % 26] by rw [show (97 + ((n / 80 % 26 : Nat) : Int)).toNat = 97 + n / 80 % 26 by (first | lia | omega)], item_sL _ _ hp] at ce
  have ce := List.cons.inj (sL_inj ce)
  rw [fd4, sL_len, fmodN, show ((n / 4 % l.length : Nat) : Int) + 1 = ((n / 4 % l.length + 1 : Nat) : Int) from rfl, slice_to _ _ (by (first | lia | omega)), slice_from _ _ (by (first | lia | omega)), show PySem.Str.ofString "_" = sL [95] by kernel_rfl, sL_app, sL_app]
  simp only [slip, c', ce.1]
  simp
theorem slip_4 (c1 : (n : Int).fmod 4 ≠ 1) (c2 : (n : Int).fmod 4 ≠ 2) (c : (n : Int).fmod 4 = 3) (ce : (⟨#[(97 + ((n : Int).fdiv 80).fmod 26).toNat]⟩ : PySem.Str) ≠ Txt.item (sL l) (((n : Int).fdiv 4).fmod (sL l).length)) :
    Txt.slice (sL l) none (some (((n : Int).fdiv 4).fmod (sL l).length)) ++ (⟨#[(97 + ((n : Int).fdiv 80).fmod 26).toNat]⟩ : PySem.Str) ++ Txt.slice (sL l) (some (((n : Int).fdiv 4).fmod (sL l).length + 1)) none = sL (slip l n) := by
  have hp := place_lt (n := n) h0
  rw [fm4] at c
  have c' : n % 4 = 3 := by (first | lia | omega)
  have el : (⟨#[(97 + ((n / 80 % 26 : Nat) : Int)).toNat]⟩ : PySem.Str) = sL [97 + n / 80 % 26] := by rw [show (97 + ((n / 80 % 26 : Nat) : Int)).toNat = 97 + n / 80 % 26 by (first | lia | omega)]
  rw [fd4, fd80, fm26, sL_len, fmodN, el, item_sL _ _ hp] at ce
  have ce : 97 + n / 80 % 26 ≠ l.getD (n / 4 % l.length) 0 := fun q => ce (by rw [q])
  rw [fd4, fd80, fm26, sL_len, fmodN, el, show ((n / 4 % l.length : Nat) : Int) + 1 = ((n / 4 % l.length + 1 : Nat) : Int) from rfl, slice_to _ _ (by (first | lia | omega)), slice_from _ _ (by (first | lia | omega)), sL_app, sL_app]
  simp only [slip, c', if_neg ce]
  simp
theorem slip_5 (c1 : (n : Int).fmod 4 ≠ 1) (c2 : (n : Int).fmod 4 ≠ 2) (c : (n : Int).fmod 4 ≠ 3) : sL l = sL (slip l n) := by
  rw [fm4] at c1 c2 c
  have e1 : n % 4 ≠ 1 := by (first | lia | omega)
  have e2 : n % 4 ≠ 2 := by (first | lia | omega)
  have e3 : n % 4 ≠ 3 := by (first | lia | omega)
  simp only [slip, if_neg e1, if_neg e2, if_neg e3]
end
theorem slip_end {s : Shared} {Q : Value → Shared → Prop} {r : PySem.Str} (ret : ∀ t' h' tk', Kp s.heap h' → Q (.str r t') { s with heap := h', toks := tk' }) {h' : Heap} {L : Addr} {m : PySem.Str → Option Value} {v : PySem.Str} {t' : Tok} {tk' : Nat}
    (F : Fr s.heap L h' m) (e : v = r) : Q (.str v t') { s with heap := h', toks := tk' } := by subst e; exact ret _ _ _ F.keep
end
-- WB3
section
theorem int_end {s : Shared} {Q : Value → Shared → Prop} {r : Int} (ret : ∀ t' h' tk', Kp s.heap h' → Q (.int r t') { s with heap := h', toks := tk' }) {h' : Heap} {L : Addr} {m : PySem.Str → Option Value} {v : Int} {t' : Tok} {tk' : Nat}
    (F : Fr s.heap L h' m) (e : v = r) : Q (.int v t') { s with heap := h', toks := tk' } := by subst e; exact ret _ _ _ F.keep
theorem bool_end {s : Shared} {Q : Value → Shared → Prop} {r : Bool} (ret : ∀ h' tk', Kp s.heap h' → Q (.bool r) { s with heap := h', toks := tk' }) {h' : Heap} {L : Addr} {m : PySem.Str → Option Value} {v : Bool} {tk' : Nat}
    (F : Fr s.heap L h' m) (e : v = r) : Q (.bool v) { s with heap := h', toks := tk' } := by subst e; exact ret _ _ F.keep
end
-- WL
section
noncomputable def LStep (h₀ : Heap) (L I : Addr) (o : Obj) (J : (Str → Option Value) → List (Addr × Obj) → Prop) (s : Shared) (R : Flow → Shared → Prop) (f : Flow) (s₃ : Shared) : Prop :=
  match f with
  | .ret v => R (.ret v) s₃
  | .brk => R .next s₃
  | _ => ∃ h' tk m₂ all news₂, s₃ = { s with heap := h', toks := tk } ∧ Fr h₀ L h' m₂ ∧ News h₀ L h' all ∧ (∀ p ∈ (I, o) :: news₂, p ∈ all) ∧ (∀ p ∈ news₂, p.1 ≠ I) ∧ J m₂ news₂

section
variable {h₀ : Heap} {L I : Addr} {o : Obj} {J : (Str → Option Value) → List (Addr × Obj) → Prop} {s : Shared} {R : Flow → Shared → Prop} {h' : Heap} {tk : Nat} {m₂ : Str → Option Value} {all : List (Addr × Obj)}
theorem LStep.next (F : Fr h₀ L h' m₂) (N : News h₀ L h' all) (news₂ : List (Addr × Obj)) (sub : ∀ p ∈ (I, o) :: news₂, p ∈ all) (off : ∀ p ∈ news₂, p.1 ≠ I) (j : J m₂ news₂) : LStep h₀ L I o J s R .next { s with heap := h', toks := tk } :=
  ⟨h', tk, m₂, all, news₂, rfl, F, N, sub, off, j⟩
theorem LStep.cont (F : Fr h₀ L h' m₂) (N : News h₀ L h' all) (news₂ : List (Addr × Obj)) (sub : ∀ p ∈ (I, o) :: news₂, p ∈ all) (off : ∀ p ∈ news₂, p.1 ≠ I) (j : J m₂ news₂) : LStep h₀ L I o J s R .cont { s with heap := h', toks := tk } :=
  ⟨h', tk, m₂, all, news₂, rfl, F, N, sub, off, j⟩
theorem LStep.brk {s₃ : Shared} (h : R .next s₃) : LStep h₀ L I o J s R .brk s₃ := h
theorem LStep.ret {s₃ : Shared} {v : Value} (h : R (.ret v) s₃) : LStep h₀ L I o J s R (.ret v) s₃ := h
end

section
variable {prog : Program} {w : World} {A : Around} {s : Shared} {env : Env} {h₀ : Heap}

theorem floop {R : Result → Shared → Prop} {target : Expr} {body orelse : List Stmt} {I : Addr} {fp : List Addr} {n : Nat} {P : Nat → Value → Prop} {St : Nat → Heap → Prop} {m : Str → Option Value}
    {news : List (Addr × Obj)} (W : Walks prog w A I fp [I] n P St)
    (hLf : env.locals ∉ fp) (hI : h₀.get? I = none) (hlive : ∀ i h, St i h → ∃ o, h.get? I = some o) (hnw : ∀ p ∈ news, p.1 ≠ I)
    (hst : St 0 s.heap) (F : Fr h₀ env.locals s.heap m) (N : News h₀ env.locals s.heap news)
    (J : Nat → (Str → Option Value) → List (Addr × Obj) → Prop) (h0 : J 0 m news)
    (hfp : ∀ b ∈ fp, b ≠ I → ∃ o, h₀.get? b = some o ∨ ∀ i m news, J i m news → (b, o) ∈ news)
    (step : ∀ i v m₁ news₁ h tk o, i < n → P i v → J i m₁ news₁ → (∀ p ∈ news₁, p.1 ≠ I) → Fr h₀ env.locals h m₁ → News h₀ env.locals h ((I, o) :: news₁) →
      wpAny (model prog w) A (assign target env v) (fun _ s₂ => wpAny (model prog w) A (execs body env) (LStep h₀ env.locals I o (J (i + 1)) s (fun f s' => R (.ok f) s'))
        (notedBy (model prog w) A env fun e s' => R (.error e) s') s₂) (notedBy (model prog w) A env fun e s' => R (.error e) s') { s with heap := h, toks := tk })
    (hR : ∀ h tk m' news', Fr h₀ env.locals h m' → News h₀ env.locals h news' → J n m' news' → wpAny (model prog w) A (execs orelse env) (fun f s₃ => R (.ok f) s₃) (notedBy (model prog w) A env fun e s' => R (.error e) s') { s with heap := h, toks := tk })
    (ht : ∀ v, letOwnedTupleGo target (.ref I) v = pure () := by intro _; rfl) :
    codeAny (model prog w) A (.forLoop target (.ref I) body orelse env) R s := by
  have hLI : env.locals ≠ I := fun e => hLf (W.sub _ (by simp [e]))
  have old : ∀ b o, h₀.get? b = some o → b ∉ [I] := fun b o e hb => by rw [List.mem_singleton.mp hb, hI] at e; cases e
  refine codeAny_forLoop
    (fun k s' => ∃ h' tk m' news' i, s' = { s with heap := h', toks := tk } ∧ St i h' ∧ Fr h₀ env.locals h' m' ∧ News h₀ env.locals h' news' ∧ (∀ p ∈ news', p.1 ≠ I) ∧ J i m' news' ∧ i ≤ n ∧ k = n + 1 - i) ?_ (n + 1)
    ⟨s.heap, s.toks, m, news, 0, rfl, hst, F, N, hnw, h0, Nat.zero_le _, rfl⟩ ht
  rintro k s' ⟨h', tk, m', news', i, rfl, hst', F', N', hnw', hJ, hi, rfl⟩
  have next : ∀ h₁ : Heap, (∀ b o, b ∉ [I] → h'.get? b = some o → h₁.get? b = some o) → Fr h₀ env.locals h₁ m' ∧ News h₀ env.locals h₁ news' := fun h₁ hk₁ =>
    ⟨⟨F'.ns.at' fun o e => hk₁ _ o (fun hm => hLI (List.mem_singleton.mp hm)) e, fun b o e => hk₁ b o (old b o e) (F'.keep b o e), F'.above⟩, fun p hp => ⟨hk₁ _ _ (fun hm => hnw' p hp (List.mem_singleton.mp hm)) (N' p hp).1, (N' p hp).2⟩⟩
  by_cases hlt : i < n
  · refine W.item i _ _ _ hlt hst' fun v h₁ tk₁ hP hst₁ hk₁ => ?_
    obtain ⟨F₁, N₁⟩ := next h₁ hk₁
    obtain ⟨o, ho⟩ := hlive _ _ hst₁
    have N₂ : News h₀ env.locals h₁ ((I, o) :: news') := fun p hp => by
      rcases List.mem_cons.mp hp with rfl | hp
      · exact ⟨ho, fun e => hLI e.symm, hI⟩
      · exact N₁ p hp
    refine wpAny_mono (step i v m' news' h₁ tk₁ o hlt hP hJ hnw' F₁ N₂) (fun _ s₂ h₂ => wpAny_mono h₂ (fun f s₃ h₃ => ?_) fun _ _ e => e) fun _ _ e => e
    have key : (∃ h' tk m₂ all news₂, s₃ = { s with heap := h', toks := tk } ∧ Fr h₀ env.locals h' m₂ ∧ News h₀ env.locals h' all ∧ (∀ p ∈ (I, o) :: news₂, p ∈ all) ∧ (∀ p ∈ news₂, p.1 ≠ I) ∧ J (i + 1) m₂ news₂) →
        ∃ m, m < n + 1 - i ∧ ∃ h' tk m' news' j, s₃ = { s with heap := h', toks := tk } ∧ St j h' ∧ Fr h₀ env.locals h' m' ∧ News h₀ env.locals h' news' ∧ (∀ p ∈ news', p.1 ≠ I) ∧ J j m' news' ∧ j ≤ n ∧ m = n + 1 - j := by
      rintro ⟨h₃', tk₃, m₂, all, news₂, rfl, F₃, N₃, sub, off, hJ₃⟩
      refine ⟨n + 1 - (i + 1), by omega, h₃', tk₃, m₂, news₂, i + 1, rfl, ?_, F₃, fun p hp => N₃ p (sub p (List.mem_cons_of_mem _ hp)), off, hJ₃, hlt, rfl⟩
      refine W.frame _ _ _ hst₁ fun b hb o' e => ?_
      by_cases hbI : b = I
      · subst hbI
        rw [ho] at e; cases e
        exact (N₃ _ (sub _ (List.mem_cons_self ..))).1
      · obtain ⟨ob, hob⟩ := hfp b hb hbI
        rcases hob with hob | hob
        · have e' := F₁.keep b ob hob
          exact (Option.some.inj (e'.symm.trans e)) ▸ F₃.keep b ob hob
        · have e' := (N₁ _ (hob _ _ _ hJ)).1
          exact (Option.some.inj (e'.symm.trans e)) ▸ (N₃ _ (sub _ (List.mem_cons_of_mem _ (hob _ _ _ hJ₃)))).1
    cases f with
    | ret v => exact h₃
    | brk => exact h₃
    | cont => exact key h₃
    | next => exact key h₃
  · have hin : i = n := by omega
    subst hin
    refine W.done _ _ _ hst' fun h₁ tk₁ hk₁ => ?_
    obtain ⟨F₁, N₁⟩ := next h₁ hk₁
    exact hR h₁ tk₁ m' news' F₁ N₁ hJ

/-- what a for over a name wants of its iterator: any kind -/
noncomputable def ForAt (prog : Program) (w : World) (A : Around) (h₀ : Heap) (env : Env) (x : Str) (body orelse : List Stmt) (Q : Flow → Shared → Prop) (E : Value → Shared → Prop) (it : Value) (s : Shared) : Prop :=
  ∃ (I : Addr) (fp : List Addr) (n : Nat) (P : Nat → Value → Prop) (St : Nat → Heap → Prop) (m : Str → Option Value) (news : List (Addr × Obj)) (J : Nat → (Str → Option Value) → List (Addr × Obj) → Prop),
    it = .ref I ∧ Walks prog w A I fp [I] n P St ∧ env.locals ∉ fp ∧ h₀.get? I = none ∧ (∀ i h, St i h → ∃ o, h.get? I = some o) ∧ (∀ p ∈ news, p.1 ≠ I) ∧ St 0 s.heap ∧ Fr h₀ env.locals s.heap m ∧ News h₀ env.locals s.heap news ∧ J 0 m news ∧
    (∀ b ∈ fp, b ≠ I → ∃ o, h₀.get? b = some o ∨ ∀ i m news, J i m news → (b, o) ∈ news) ∧
    (∀ i v m₁ news₁ h tk o, i < n → P i v → J i m₁ news₁ → (∀ p ∈ news₁, p.1 ≠ I) → Fr h₀ env.locals h (fun y => if y = x then some v else m₁ y) → News h₀ env.locals h ((I, o) :: news₁) →
      wpAny (model prog w) A (execs body env) (LStep h₀ env.locals I o (J (i + 1)) s Q) E { s with heap := h, toks := tk }) ∧
    ∀ h tk m' news', Fr h₀ env.locals h m' → News h₀ env.locals h news' → J n m' news' → wpAny (model prog w) A (execs orelse env) Q E { s with heap := h, toks := tk }

theorem For_at {E : Value → Shared → Prop} {Q : Flow → Shared → Prop} {x : Str} {px pos : Pos} {iter : Expr} {body orelse : List Stmt} {L : Addr} {m₀ : Str → Option Value} (F₀ : Fr h₀ L s.heap m₀)
    (hx : env.kindOf x = some .local) (hp : (env.scope.kind == .class || (env.scope.kind == .module && env.locals != env.globals)) = false)
    (h : wpAny (model prog w) A (eval iter env) (fun xv s₁ => wpAny (model prog w) A (pyIter xv) (fun it s₂ => ForAt prog w A h₀ env x body orelse Q E it s₂) E s₁) E s)
    (hs : ∀ x, foldedSetIterable iter env x = pure x := by intro _; rfl)
    (hE : PassesOwn (model prog w) A env E := by passes_own) :
    wpAny (model prog w) A (exec (.For (.Name x px) iter body orelse pos) env) Q E s := by
  refine wpAny_For (wpAny_mono h (fun xv s₁ h₁ => wpAny_mono h₁ (fun it s₂ h₂ => ?_) fun _ _ e => e) fun _ _ e => e) hs
  obtain ⟨I, fp, n, P, St, m, news, J, rfl, W, hLf, hI, hlive, hnw, hst, F, N, h0, hfp, step, hR⟩ := h₂
  refine floop (R := fun r s' => match r with | .ok f => Q f s' | .error e => cameBackBy (model prog w) A env E e s') W hLf hI hlive hnw hst F N J h0 hfp ?_ ?_
  · intro i v m₁ news₁ h tk o hi hP hJ hoff F₁ N₁
    refine wpAny_assign_Name (wpAny_storeName_local hx F₁.ns (fun h₂ hn₂ hs₂ => ?_) hp)
    exact wpAny_passesOwn hE (step i v m₁ news₁ h₂ _ o hi hP hJ hoff (F₁.set hn₂ hs₂) (N₁.set hs₂))
  · intro h tk m' news' F' N' hJ
    exact wpAny_passesOwn hE (hR h tk m' news' F' N' hJ)

/-- over a range: the state is said by J -/
theorem ForAt.range {E : Value → Shared → Prop} {Q : Flow → Shared → Prop} {x : Str} {body orelse : List Stmt} {r : Addr} {a₀ b₀ c₀ : Int} {t₀ u₀ v₀ : Tok} {n : Nat} {m : Str → Option Value} {news : List (Addr × Obj)}
    (hh : A.handled = none) (hr : IsRange s.heap r a₀ b₀ c₀ t₀ u₀ v₀) (hsmall : Builtin.Range.small a₀ b₀ c₀ = true) (hn : Builtin.Range.rangeSize a₀ b₀ c₀ = (n : Int)) (F : Fr h₀ env.locals s.heap m) (N : News h₀ env.locals s.heap news)
    (J : Nat → (Str → Option Value) → List (Addr × Obj) → Prop) (h0 : J 0 m news)
    (step : ∀ i t m₁ news₁ h tk I o, i < n → J i m₁ news₁ → (∀ p ∈ news₁, p.1 ≠ I) → Fr h₀ env.locals h (fun y => if y = x then some (.int (a₀ + (i : Int) * c₀) t) else m₁ y) → News h₀ env.locals h ((I, o) :: news₁) →
      wpAny (model prog w) A (execs body env) (LStep h₀ env.locals I o (J (i + 1)) s Q) E { s with heap := h, toks := tk })
    (hR : ∀ h tk m' news', Fr h₀ env.locals h m' → News h₀ env.locals h news' → J n m' news' → wpAny (model prog w) A (execs orelse env) Q E { s with heap := h, toks := tk }) :
    wpAny (model prog w) A (pyIter (.ref r)) (fun it s₂ => ForAt prog w A h₀ env x body orelse Q E it s₂) E s := by
  refine wpAny_pyIter_range hr hsmall ?_
  have hLI : env.locals ≠ s.heap.objs.size := fun e => by have := F.ns.lt; rw [e] at this; exact Nat.lt_irrefl _ this
  refine ⟨_, _, n, _, _, m, news, J, rfl, Walks.range hh s.heap.objs.size a₀ c₀ n, by simpa using hLI, next_is_new F, fun i h st => ⟨_, st⟩, fun p hp e => ?_, ?_, F.push _,
    (fun p hp => ⟨Heap.get?_push_of_some _ (N p hp).1, (N p hp).2⟩), h0, fun b hb hne => absurd (List.mem_singleton.mp hb) hne, ?_, hR⟩
  · exact absurd (Heap.lt_size (N p hp).1) (e ▸ Nat.lt_irrefl _)
  · show IsRangeIter _ _ _ _ _; rw [hn]; simpa using Heap.get?_push_size _ rfl
  · rintro i v m₁ news₁ h tk o hi ⟨t, rfl⟩ hJ hoff F₁ N₁
    exact step i t m₁ news₁ h tk _ o hi hJ hoff F₁ N₁

/-- over a text -/
theorem ForAt.str {E : Value → Shared → Prop} {Q : Flow → Shared → Prop} {x : Str} {body orelse : List Stmt} {y : Str} {t₀ : Tok} {m : Str → Option Value} {news : List (Addr × Obj)}
    (hh : A.handled = none) (F : Fr h₀ env.locals s.heap m) (N : News h₀ env.locals s.heap news)
    (J : Nat → (Str → Option Value) → List (Addr × Obj) → Prop) (h0 : J 0 m news)
    (step : ∀ i c t m₁ news₁ h tk I o, y.cps[i]? = some c → J i m₁ news₁ → (∀ p ∈ news₁, p.1 ≠ I) → Fr h₀ env.locals h (fun y => if y = x then some (.str ⟨#[c]⟩ t) else m₁ y) → News h₀ env.locals h ((I, o) :: news₁) →
      wpAny (model prog w) A (execs body env) (LStep h₀ env.locals I o (J (i + 1)) s Q) E { s with heap := h, toks := tk })
    (hR : ∀ h tk m' news', Fr h₀ env.locals h m' → News h₀ env.locals h news' → J y.cps.size m' news' → wpAny (model prog w) A (execs orelse env) Q E { s with heap := h, toks := tk }) :
    wpAny (model prog w) A (pyIter (.str y t₀)) (fun it s₂ => ForAt prog w A h₀ env x body orelse Q E it s₂) E s := by
  have hLI : env.locals ≠ s.heap.objs.size := fun e => by have := F.ns.lt; rw [e] at this; exact Nat.lt_irrefl _ this
  have main : ∀ (o : Obj) (St : Nat → Heap → Prop), Walks prog w A s.heap.objs.size [s.heap.objs.size] [s.heap.objs.size] y.cps.size (SignAt y) St → (∀ i h, St i h → ∃ o, h.get? s.heap.objs.size = some o) → St 0 (s.heap.push o) →
      ForAt prog w A h₀ env x body orelse Q E (.ref s.heap.objs.size) { s with heap := s.heap.push o } := by
    intro o St W hlive st
    refine ⟨_, _, _, _, _, m, news, J, rfl, W, by simpa using hLI, next_is_new F, hlive, fun p hp e => ?_, st, F.push _,
      (fun p hp => ⟨Heap.get?_push_of_some _ (N p hp).1, (N p hp).2⟩), h0, fun b hb hne => absurd (List.mem_singleton.mp hb) hne, ?_, hR⟩
    · exact absurd (Heap.lt_size (N p hp).1) (e ▸ Nat.lt_irrefl _)
    · rintro i v m₁ news₁ h tk o hi ⟨c, u, hc, rfl⟩ hJ hoff F₁ N₁
      exact step i c u m₁ news₁ h tk _ o hc hJ hoff F₁ N₁
  cases ha : y.cps.all (· < 128)
  · exact wpAny_pyIter_wide ha (main _ _ (Walks.strWide hh _ y t₀) (fun _ _ st => let ⟨o, ho, _⟩ := st; ⟨o, ho⟩) ⟨_, Heap.get?_push_size _ rfl, rfl, rfl⟩)
  · exact wpAny_pyIter_ascii ha (main _ _ (Walks.strAscii hh _ y t₀) (fun _ _ st => let ⟨o, ho, _⟩ := st; ⟨o, ho⟩) ⟨_, Heap.get?_push_size _ rfl, rfl, rfl⟩)

/-- over a list -/
theorem ForAt.list {E : Value → Shared → Prop} {Q : Flow → Shared → Prop} {x : Str} {body orelse : List Stmt} {l : Addr} {its : Array Value} {m : Str → Option Value} {news : List (Addr × Obj)}
    (hh : A.handled = none) (hl : s.heap.IsList l its) (hlL : l ≠ env.locals) (F : Fr h₀ env.locals s.heap m) (N : News h₀ env.locals s.heap news)
    (J : Nat → (Str → Option Value) → List (Addr × Obj) → Prop) (h0 : J 0 m news)
    (hfp : ∃ o, h₀.get? l = some o ∨ ∀ i m news, J i m news → (l, o) ∈ news)
    (step : ∀ i v m₁ news₁ h tk I o, its[i]? = some v → J i m₁ news₁ → (∀ p ∈ news₁, p.1 ≠ I) → Fr h₀ env.locals h (fun y => if y = x then some v else m₁ y) → News h₀ env.locals h ((I, o) :: news₁) →
      wpAny (model prog w) A (execs body env) (LStep h₀ env.locals I o (J (i + 1)) s Q) E { s with heap := h, toks := tk })
    (hR : ∀ h tk m' news', Fr h₀ env.locals h m' → News h₀ env.locals h news' → J its.size m' news' → wpAny (model prog w) A (execs orelse env) Q E { s with heap := h, toks := tk }) :
    wpAny (model prog w) A (pyIter (.ref l)) (fun it s₂ => ForAt prog w A h₀ env x body orelse Q E it s₂) E s := by
  obtain ⟨ol, hol, hol2⟩ := id hl
  have hlt : l < s.heap.objs.size := Heap.lt_size hol
  have hne : l ≠ s.heap.objs.size := Nat.ne_of_lt hlt
  refine wpAny_pyIter_list hl ?_
  have hLI : env.locals ≠ s.heap.objs.size := fun e => by have := F.ns.lt; rw [e] at this; exact Nat.lt_irrefl _ this
  refine ⟨_, _, its.size, _, _, m, news, J, rfl, Walks.list hh s.heap.objs.size l hne its, ?_, next_is_new F, fun i h st => ?_, fun p hp e => ?_, ⟨⟨_, Heap.get?_push_size _ rfl, rfl, rfl⟩, hl.at fun o e => Heap.get?_push_of_some _ e⟩, F.push _,
    (fun p hp => ⟨Heap.get?_push_of_some _ (N p hp).1, (N p hp).2⟩), h0, fun b hb hne => ?_, ?_, hR⟩
  · intro hm
    rcases List.mem_cons.mp hm with e | hm
    · exact hLI e
    · exact hlL (List.mem_singleton.mp hm).symm
  · obtain ⟨⟨o, ho, _⟩, _⟩ := st; exact ⟨o, ho⟩
  · exact absurd (Heap.lt_size (N p hp).1) (e ▸ Nat.lt_irrefl _)
  · rcases List.mem_cons.mp hb with e | hm
    · exact absurd e hne
    · rw [List.mem_singleton.mp hm]; exact hfp
  · rintro i v m₁ news₁ h tk o hi hv hJ hoff F₁ N₁
    exact step i v m₁ news₁ h tk _ o hv hJ hoff F₁ N₁
end
end
-- WG
section
theorem n_flagnames (P : Params) : nsIn (kF P) mainGlobals (PySem.Str.ofString "COMPILER_FLAG_NAMES") = some (some (.ref 15)) := by kernel_rfl
theorem n_b1set (P : Params) : nsIn (kF P) mainGlobals (PySem.Str.ofString "b1_set") = some (some (.ref 100)) := by kernel_rfl
theorem n_b3exc (P : Params) : nsIn (kF P) mainGlobals (PySem.Str.ofString "b3_exceptions") = some (some (.ref 111)) := by kernel_rfl

section
variable {w : World} {A : Around} {E : Value → Shared → Prop} {s : Shared} {d : Addr} {f : Int → Option Value}
theorem map_get1 {i : Int} {t : Tok} {Q : Value → Shared → Prop} (hm : s.heap.MapOf (intKind pw w) d f) (lo : (d == sysModules) = false) (h : Q ((f i).getD .none) { s with toks := s.toks + 1 }) :
    wpAny (model pw w) A (call (.builtin "dict.get") [.ref d, .int i t]) Q E s :=
  call_meetsIn PySem.F.slot_dict_get hm.typeIs PySem.F.entry_dict_get (PySem.F.args_dict_get_2 _ _) (meets_dict_get _ d (intKind_is pw w i t) lo) ⟨_, hm, h⟩
theorem map_get2 {i : Int} {t : Tok} {dflt : Value} {Q : Value → Shared → Prop} (hm : s.heap.MapOf (intKind pw w) d f) (lo : (d == sysModules) = false) (h : Q ((f i).getD dflt) { s with toks := s.toks + 1 }) :
    wpAny (model pw w) A (call (.builtin "dict.get") [.ref d, .int i t, dflt]) Q E s :=
  call_meetsIn PySem.F.slot_dict_get hm.typeIs PySem.F.entry_dict_get (PySem.F.args_dict_get_3 _ _ _) (meets_dict_get_default _ d (intKind_is pw w i t) lo dflt) ⟨_, hm, h⟩
theorem map_method {pl : Sem Bool} {Q : Value × List Value → Shared → Prop} (hm : s.heap.MapOf (intKind pw w) d f) (h : Q (.builtin "dict.get", [.ref d]) s) : wpAny (model pw w) A (getMethod (.ref d) "get" pl) Q E s :=
  getMethod_builtin hm.typeIs PySem.F.plainAttrs_dict PySem.F.slot_dict_get PySem.F.type_dict_get hm.noDict h
end

noncomputable def keysOk (es : List DictEntry) : Bool := es.all fun e => match e.key with | .int i _ => decide (e.hash = hashInt i) | _ => false
theorem keys_of_ok {w : World} {es : List DictEntry} (h : keysOk es = true) : KeysOf (intKind pw w) es.toArray := fun e he => by
  have he' : e ∈ es := by simpa using he
  have := List.all_eq_true.mp h e he'
  obtain ⟨hs, k, v⟩ := e
  cases k <;> first | cases this | skip
  rename_i i t
  exact ⟨i, by simp [intKind, Value.isInt], of_decide_eq_true this⟩
noncomputable def findI (es : List DictEntry) (k : Int) : Option Value := (es.find? fun e => match e.key with | .int i _ => decide (i = k) | _ => false).map (·.val)
theorem findI_eq {w : World} {es : List DictEntry} (h : keysOk es = true) (k : Int) : findBy (intKind pw w).is es.toArray k = findI es k := by
  unfold findBy findI
  rw [List.find?_toArray]
  have hh := List.all_eq_true.mp h
  have : ∀ l : List DictEntry, (∀ e ∈ l, e ∈ es) → (l.find? fun e => (intKind pw w).is k e.key) = l.find? fun e => match e.key with | .int i _ => decide (i = k) | _ => false := by
    intro l
    induction l with
    | nil => intro _; rfl
    | cons e r ih =>
      intro hs
      have he := hh e (hs e (.head _))
      obtain ⟨ha, ke, v⟩ := e
      cases ke <;> first | cases he | skip
      rename_i i t
      simp only [List.find?]
      rw [ih fun e q => hs e (.tail _ q)]
      have : (intKind pw w).is k (Value.int i t) = decide (i = k) := by
        show Value.isInt k (.int i t) = _
        simp only [Value.isInt]
        by_cases q : i = k <;> simp [q]
      rw [this]
  rw [this es fun _ h => h]

noncomputable def entsOf (o : Obj) : List DictEntry := match o.data with | .dict es _ => es.toList | _ => []
theorem ok15 (P : Params) : keysOk (entsOf (oE_15 P)) = true := by kernel_rfl
theorem k15 (P : Params) : (kF P).lookup 15 = some (oE_15 P) := by kernel_rfl
theorem ok111 : keysOk (entsOf b3Main) = true := by kernel_rfl
theorem k111 (P : Params) : (kF P).lookup 111 = some b3Main := by kernel_rfl
theorem map15 {w : World} {h : Heap} (KX : (kF w.params).In h) : h.MapOf (intKind pw w) 15 (findI (entsOf (oE_15 w.params))) :=
  ⟨oE_15 w.params, (entsOf (oE_15 w.params)).toArray, 10, KX _ _ (k15 _), ⟨rfl, rfl, rfl⟩, rfl, keys_of_ok (ok15 _), fun k => findI_eq (ok15 _) k⟩
theorem map111 {w : World} {h : Heap} (KX : (kF w.params).In h) : h.MapOf (intKind pw w) 111 (findI (entsOf b3Main)) :=
  ⟨b3Main, (entsOf b3Main).toArray, _, KX _ _ (k111 _), ⟨rfl, rfl, rfl⟩, rfl, keys_of_ok ok111, fun k => findI_eq ok111 k⟩

noncomputable def elemsOfO (o : Obj) : List (Int × Value) := match o.data with | .set es _ _ => es.toList | _ => []
theorem k100 (P : Params) : (kF P).lookup 100 = some (oF_100 P) := by kernel_rfl
noncomputable def inB1 (k : Int) : Bool := ([173, 847, 6150, 6155, 6156, 6157, 8203, 8204, 8205, 8288, 65279, 65024, 65025, 65026, 65027, 65028, 65029, 65030, 65031, 65032, 65033, 65034, 65035, 65036, 65037, 65038, 65039] : List Int).contains k
noncomputable def b1ints (P : Params) : List Int := (elemsOfO (oF_100 P)).map fun e => match e.2 with | .int i _ => i | _ => 0
theorem ok100 (P : Params) : ((elemsOfO (oF_100 P)).all fun e => match e.2 with | .int i _ => decide (e.1 = hashInt i) | _ => false) = true := by kernel_rfl
theorem b1same (P : Params) : ((b1ints P).all fun i => inB1 i) = true := by kernel_rfl
theorem b1same' (P : Params) : (([173, 847, 6150, 6155, 6156, 6157, 8203, 8204, 8205, 8288, 65279, 65024, 65025, 65026, 65027, 65028, 65029, 65030, 65031, 65032, 65033, 65034, 65035, 65036, 65037, 65038, 65039] : List Int).all fun i => (b1ints P).contains i) = true := by kernel_rfl
theorem inB1_iff (P : Params) (k : Int) : inB1 k = true ↔ k ∈ b1ints P := by
  constructor
  · intro h
    have h1 : k ∈ _ := List.contains_iff_mem.mp h
    exact List.contains_iff_mem.mp (List.all_eq_true.mp (b1same' P) k h1)
  · intro h
    exact List.all_eq_true.mp (b1same P) k h
theorem set100 {w : World} {h : Heap} (KX : (kF w.params).In h) : h.SetOf (intKind pw w) 100 inB1 27 := by
  refine PySem.Obj.SetObjOf.setOf (o := oF_100 w.params) (n := 27) ?_ (KX _ _ (k100 _)) (by decide)
  refine ⟨⟨rfl, rfl, rfl⟩, (elemsOfO (oF_100 w.params)).toArray, _, _, rfl, ?_, fun k => ?_, rfl, by rfl⟩
  · intro e he
    have he' : e ∈ elemsOfO (oF_100 w.params) := by simpa using he
    have := List.all_eq_true.mp (ok100 w.params) e he'
    obtain ⟨hs, v⟩ := e
    cases v <;> first | cases this | skip
    rename_i i t
    exact ⟨⟨i, by simp [intKind, Value.isInt], of_decide_eq_true this⟩, rfl⟩
  · rw [inB1_iff w.params]
    constructor
    · intro h
      obtain ⟨e, he, q⟩ := List.mem_map.mp h
      have := List.all_eq_true.mp (ok100 w.params) e he
      refine ⟨e, by simpa using he, ?_⟩
      obtain ⟨hs, v⟩ := e
      cases v <;> first | cases this | skip
      rename_i i t
      subst q
      simp [intKind, Value.isInt]
    · rintro ⟨e, he, q⟩
      have he' : e ∈ elemsOfO (oF_100 w.params) := by simpa using he
      have := List.all_eq_true.mp (ok100 w.params) e he'
      refine List.mem_map.mpr ⟨e, he', ?_⟩
      obtain ⟨hs, v⟩ := e
      cases v <;> first | cases this | skip
      rename_i i t
      simpa [intKind, Value.isInt] using q
end
-- WP
section
noncomputable def flagName (i : Nat) : PySem.Str := if i < 10 then ([sS [79, 80, 84, 73, 77, 73, 90, 69, 68], sS [78, 69, 87, 76, 79, 67, 65, 76, 83], sS [86, 65, 82, 65, 82, 71, 83], sS [86, 65, 82, 75, 69, 89, 87, 79, 82, 68, 83], sS [78, 69, 83, 84, 69, 68], sS [71, 69, 78, 69, 82, 65, 84, 79, 82], sS [78, 79, 70, 82, 69, 69], sS [67, 79, 82, 79, 85, 84, 73, 78, 69], sS [73, 84, 69, 82, 65, 66, 76, 69, 95, 67, 79, 82, 79, 85, 84, 73, 78, 69], sS [65, 83, 89, 78, 67, 95, 71, 69, 78, 69, 82, 65, 84, 79, 82]]).getD i PySem.Str.empty else baseText "0x" 16 (2 ^ i)
noncomputable def prettyFrom : Nat → Nat → Int → List PySem.Str → List PySem.Str
  | 0, i, fl, acc => acc ++ [baseText "0x" 16 fl]
  | k + 1, i, fl, acc => if fl / 2 ^ i % 2 = 0 then prettyFrom k (i + 1) fl acc
      else if fl - 2 ^ i = 0 then acc ++ [flagName i] else prettyFrom k (i + 1) (fl - 2 ^ i) (acc ++ [flagName i])
noncomputable def prettyS (a : Int) : List PySem.Str := prettyFrom 32 0 a []

theorem look15 (P : Params) : ∀ i, i < 32 → findI (entsOf (oE_15 P)) (2 ^ i) = if i < 10 then some (.str (flagName i) (190 + 2 * i)) else none := by
  intro i hi
  have h : ∀ l : List Nat, l = List.range 32 → ∀ j ∈ l, findI (entsOf (oE_15 P)) (2 ^ j) = if j < 10 then some (.str (flagName j) (190 + 2 * j)) else none := by
    intro l hl
    have e : l = [0, 1, 2, 3, 4, 5, 6, 7, 8, 9, 10, 11, 12, 13, 14, 15, 16, 17, 18, 19, 20, 21, 22, 23, 24, 25, 26, 27, 28, 29, 30, 31] := by rw [hl]; rfl
    subst e
    clear hl
    intro j hj
    simp only [List.mem_cons, List.not_mem_nil, or_false] at hj
    rcases hj with rfl | rfl | rfl | rfl | rfl | rfl | rfl | rfl | rfl | rfl | rfl | rfl | rfl | rfl | rfl | rfl | rfl | rfl | rfl | rfl | rfl | rfl | rfl | rfl | rfl | rfl | rfl | rfl | rfl | rfl | rfl | rfl <;> kernel_rfl
  exact h _ rfl i (List.mem_range.mpr hi)
theorem get15 (P : Params) {i : Nat} (hi : i < 32) (t : Tok) : ∃ u, (findI (entsOf (oE_15 P)) (1 * 2 ^ ((i : Nat) : Int).toNat)).getD (.str (baseText "0x" 16 (1 * 2 ^ ((i : Nat) : Int).toNat)) t) = .str (flagName i) u := by
  rw [Int.one_mul, Int.toNat_natCast, look15 P i hi]
  by_cases h : i < 10
  · exact ⟨_, by rw [if_pos h]; rfl⟩
  · refine ⟨t, ?_⟩
    rw [if_neg h]; unfold flagName; rw [if_neg h]; rfl
theorem hexfit_pow {i : Nat} (hi : i < 32) : (baseText "0x" 16 (1 * 2 ^ ((i : Nat) : Int).toNat)).length ≤ sizeLine := by
  refine baseText_under (by decide) (by decide) ?_
  rw [Int.one_mul, Int.toNat_natCast, Int.natAbs_pow]
  show 2 ^ i < _
  calc 2 ^ i < 2 ^ 32 := Nat.pow_lt_pow_right (by decide) hi
    _ < _ := by decide
theorem hexfit {i : Int} (h1 : -4611686018427387904 < i) (h2 : i < 4611686018427387904) : (baseText "0x" 16 i).length ≤ sizeLine :=
  baseText_under (by decide) (by decide) (by (first | lia | omega))
theorem bit_and (x : Int) (i : Nat) : Builtin.bitAnd x (1 * 2 ^ ((i : Nat) : Int).toNat) = (x / 2 ^ i % 2) * 2 ^ i := by rw [Int.one_mul, Int.toNat_natCast]; exact kbt_bit x i
theorem pow_pos' (i : Nat) : (0 : Int) < 2 ^ i := Int.pow_pos (by decide)
theorem bit_zero {x : Int} {i : Nat} (h : Builtin.bitAnd x (1 * 2 ^ ((i : Nat) : Int).toNat) = 0) : x / 2 ^ i % 2 = 0 := by
  rw [bit_and] at h
  rcases Int.mul_eq_zero.mp h with h | h
  · exact h
  · have := pow_pos' i; (first | lia | omega)
theorem bit_one {x : Int} {i : Nat} (h : Builtin.bitAnd x (1 * 2 ^ ((i : Nat) : Int).toNat) ≠ 0) : x / 2 ^ i % 2 = 1 := by
  rw [bit_and] at h
  have : x / 2 ^ i % 2 ≠ 0 := fun e => h (by rw [e, Int.zero_mul])
  (first | lia | omega)
theorem bit_xor {x : Int} {i : Nat} (h : x / 2 ^ i % 2 = 1) : Builtin.bitXor x (1 * 2 ^ ((i : Nat) : Int).toNat) = x - 2 ^ i := by
  have e : Builtin.bitXor x (1 * 2 ^ ((i : Nat) : Int).toNat) = Builtin.bitOr x (1 * 2 ^ ((i : Nat) : Int).toNat) - Builtin.bitAnd x (1 * 2 ^ ((i : Nat) : Int).toNat) := rfl
  rw [e, bitOr_and, bit_and, h, Int.one_mul, Int.toNat_natCast]; (first | lia | omega)
theorem StrsAre.snoc {vs : List Value} {xs : List PySem.Str} (h : StrsAre vs xs) (x : PySem.Str) (t : Tok) : StrsAre (vs ++ [.str x t]) (xs ++ [x]) := by
  induction h with
  | nil => exact .cons _ _ .nil
  | cons y t _ ih => exact .cons _ _ ih

noncomputable def prettyJ (a : Int) (D : Addr) (i : Nat) (m : PySem.Str → Option Value) (news : List (Addr × Obj)) : Prop :=
  ∃ (fl : Int) (tf : Tok) (acc : List PySem.Str) (vs : Array Value) (c : Nat), m (PySem.Str.ofString "flags") = some (.int fl tf) ∧ m (PySem.Str.ofString "names") = some (.ref D) ∧ news = [(D, { cls := .type "list", data := .seq vs c })] ∧
    StrsAre vs.toList acc ∧ acc.length ≤ i ∧ (∀ x ∈ acc, x.length ≤ 70) ∧ prettyFrom (32 - i) i fl acc = prettyS a ∧ a - 2 ^ i < fl ∧ fl ≤ a
theorem hexlen {i : Int} (h1 : -4611686018427387904 < i) (h2 : i < 4611686018427387904) : (baseText "0x" 16 i).length ≤ 70 := by
  have e : (2 : Nat) ^ 64 = 18446744073709551616 := by decide
  have h64 : i.natAbs < 16 ^ 64 := Nat.lt_of_lt_of_le (by rw [e]; (first | lia | omega) : i.natAbs < 2 ^ 64) (Nat.pow_le_pow_left (by decide) 64)
  have h1 := toDigits_len_pow (by decide : 2 ≤ 16) (by decide : 1 ≤ 64) h64
  unfold baseText
  rw [PySem.Str.length_append, PySem.Str.length_append]
  have h5 := ofString_ofList_length (Nat.toDigits 16 i.natAbs)
  have h3 : (PySem.Str.ofString (if i < 0 then "-" else "")).length ≤ 1 := by
    split <;> (rw [PyProof.Rows.ofString_len]; decide)
  have h4 : (PySem.Str.ofString "0x").length = 2 := by decide
  (first | lia | omega)
theorem flagName_len {i : Nat} (hi : i < 32) : (flagName i).length ≤ 70 := by
  by_cases h : i < 10
  · have : ∀ j, j < 10 → (flagName j).length ≤ 70 := by decide
    exact this i h
  · unfold flagName; rw [if_neg h]
    have h1 : (2 : Int) ^ i < 2 ^ 32 := by
      have : 2 ^ i < 2 ^ 32 := Nat.pow_lt_pow_right (by decide) hi
      exact_mod_cast this
    have h2 := pow_pos' i
    exact hexlen (by (first | lia | omega)) (by (first | lia | omega))
theorem sum_len {xs : List PySem.Str} {n : Nat} (h : ∀ x ∈ xs, x.length ≤ n) : (xs.map (·.length)).sum ≤ n * xs.length := by
  induction xs with
  | nil => simp
  | cons x r ih =>
    have h1 := h x (.head _)
    have h2 := ih fun y hy => h y (.tail _ hy)
    simp only [List.map_cons, List.sum_cons, List.length_cons, Nat.mul_add, Nat.mul_one]
    (first | lia | omega)
theorem all_snoc {xs : List PySem.Str} {y : PySem.Str} {n : Nat} (h : ∀ x ∈ xs, x.length ≤ n) (hy : y.length ≤ n) : ∀ x ∈ xs ++ [y], x.length ≤ n := by
  intro x hx
  rcases List.mem_append.mp hx with q | q
  · exact h x q
  · rw [List.mem_singleton.mp q]; exact hy
theorem strs_push {vs : Array Value} {xs : List PySem.Str} (h : StrsAre vs.toList xs) (x : PySem.Str) (t : Tok) : StrsAre (vs.push (.str x t)).toList (xs ++ [x]) := by
  rw [Array.toList_push]; 
  generalize vs.toList = l at h
  induction h with
  | nil => exact .cons _ _ .nil
  | cons y t _ ih => exact .cons _ _ ih
theorem pow_succ' (i : Nat) : (2 : Int) ^ (i + 1) = 2 * 2 ^ i := by rw [Int.pow_succ]; (first | lia | omega)
theorem pretty_skip {a fl : Int} {i : Nat} {acc : List PySem.Str} (hi : i < 32) (h : prettyFrom (32 - i) i fl acc = prettyS a) (e : fl / 2 ^ i % 2 = 0) : prettyFrom (32 - (i + 1)) (i + 1) fl acc = prettyS a := by
  rw [← h, show 32 - i = (32 - (i + 1)) + 1 by (first | lia | omega)]; rw [prettyFrom, if_pos e]
theorem pretty_take {a fl : Int} {i : Nat} {acc : List PySem.Str} (hi : i < 32) (h : prettyFrom (32 - i) i fl acc = prettyS a) (e : fl / 2 ^ i % 2 = 1) (e2 : fl - 2 ^ i ≠ 0) : prettyFrom (32 - (i + 1)) (i + 1) (fl - 2 ^ i) (acc ++ [flagName i]) = prettyS a := by
  rw [← h, show 32 - i = (32 - (i + 1)) + 1 by (first | lia | omega)]
  conv => rhs; rw [prettyFrom, if_neg (by (first | lia | omega)), if_neg e2]
theorem pretty_last {a fl : Int} {i : Nat} {acc : List PySem.Str} (hi : i < 32) (h : prettyFrom (32 - i) i fl acc = prettyS a) (e : fl / 2 ^ i % 2 = 1) (e2 : fl - 2 ^ i = 0) : acc ++ [flagName i] = prettyS a := by
  rw [← h, show 32 - i = (32 - (i + 1)) + 1 by (first | lia | omega)]
  conv => rhs; rw [prettyFrom, if_neg (by (first | lia | omega)), if_pos e2]
theorem StrsAre.len {vs : List Value} {xs : List PySem.Str} (h : StrsAre vs xs) : vs.length = xs.length := by
  induction h with
  | nil => rfl
  | cons y t _ ih => simp [ih]
theorem size_lt {vs : Array Value} {xs : List PySem.Str} {n : Nat} (h : StrsAre vs.toList xs) (hl : xs.length ≤ n) (hn : n ≤ 10000) : vs.size ≤ sizeLine := by
  have := StrsAre.len h
  have h2 : vs.size = vs.toList.length := by simp
  rw [h2]
  exact Nat.le_trans (by (first | lia | omega) : vs.toList.length ≤ 10000) (by decide)
theorem str_end {s : Shared} {Q : Value → Shared → Prop} {r : PySem.Str} (ret : ∀ t' h' tk', Kp s.heap h' → Q (.str r t') { s with heap := h', toks := tk' }) {h' : Heap} {L : Addr} {m : PySem.Str → Option Value} {v : PySem.Str} {t' : Tok} {tk' : Nat}
    (F : Fr s.heap L h' m) (e : v = r) : Q (.str v t') { s with heap := h', toks := tk' } := by subst e; exact ret _ _ _ F.keep
theorem join_fits {xs : List PySem.Str} (h : ∀ x ∈ xs, x.length ≤ 70) (hl : xs.length ≤ 100) : (xs.map (·.length)).sum + xs.length ≤ 1048576 := by
  have := sum_len h
  (first | lia | omega)
theorem pretty_else {a fl : Int} {acc : List PySem.Str} (h : prettyFrom (32 - 32) 32 fl acc = prettyS a) : acc ++ [baseText "0x" 16 fl] = prettyS a := h
theorem flag_get {w : World} {A : Around} {E : Value → Shared → Prop} {s : Shared} {i : Nat} {t u : Tok} {Q : Value → Shared → Prop} (KX : (kF w.params).In s.heap) (hi : i < 32) (h : ∀ u, Q (.str (flagName i) u) { s with toks := s.toks + 1 }) :
    wpAny (model pw w) A (call (.builtin "dict.get") [.ref 15, .int (1 * 2 ^ ((i : Nat) : Int).toNat) t, .str (baseText "0x" 16 (1 * 2 ^ ((i : Nat) : Int).toNat)) u]) Q E s := by
  refine map_get2 (map15 KX) (by rfl) ?_
  obtain ⟨v, hv⟩ := get15 w.params hi u
  rw [hv]; exact h v
end
-- WB4
section
theorem valsOk : ((entsOf b3Main).all fun e => match e.val with | .str _ _ => true | _ => false) = true := by kernel_rfl
noncomputable def b3S (c : Nat) : PySem.Str := match findI (entsOf b3Main) (c : Int) with | some (.str y _) => y | _ => Txt.lower ⟨#[c]⟩
theorem find_cases (k : Int) : findI (entsOf b3Main) k = none ∨ ∃ y u, findI (entsOf b3Main) k = some (.str y u) := by
  unfold findI
  cases h : (entsOf b3Main).find? (fun e => match e.key with | .int i _ => decide (i = k) | _ => false) with
  | none => exact .inl rfl
  | some e =>
    have he := List.mem_of_find?_eq_some h
    have := List.all_eq_true.mp valsOk e he
    right
    obtain ⟨hs, ke, v⟩ := e
    cases v <;> first | cases this | skip
    exact ⟨_, _, rfl⟩
theorem b3_get {w : World} {A : Around} {E : Value → Shared → Prop} {s : Shared} {c : Nat} {t : Tok} {Q : Value → Shared → Prop} (KX : (kF w.params).In s.heap)
    (h1 : ∀ u, findI (entsOf b3Main) (c : Int) ≠ none → Q (.str (b3S c) u) { s with toks := s.toks + 1 }) (h2 : findI (entsOf b3Main) (c : Int) = none → b3S c = Txt.lower ⟨#[c]⟩ → Q .none { s with toks := s.toks + 1 }) :
    wpAny (model pw w) A (call (.builtin "dict.get") [.ref 111, .int (c : Int) t]) Q E s := by
  refine map_get1 (map111 KX) (by rfl) ?_
  rcases find_cases (c : Int) with h | ⟨y, u, h⟩
  · rw [h]; exact h2 h (by unfold b3S; rw [h])
  · rw [h]
    have e : b3S c = y := by unfold b3S; rw [h]
    rw [← e] ; exact h1 u (by rw [h]; exact fun q => nomatch q)
end
-- WH
section
theorem lk_str_gi : typeLookup (.type "str") "__getitem__" = pure (some (.builtin "str.__getitem__")) := by rw [typeLookup_type, builtinLookup_eq_fast]; kernel_rfl
theorem ty_str_gi : typeOf (.builtin "str.__getitem__") = pure (.type "wrapper_descriptor") := by kernel_rfl
theorem slot_wd_get : Slot "wrapper_descriptor" "__get__" "wrapper_descriptor.__get__" :=
  .of (owner := "wrapper_descriptor") (n := "__get__") (by rw [typeLookup_type, builtinLookup_eq_fast]; kernel_rfl) (by decide +kernel) (by decide +kernel) (by decide +kernel)
    (by first | exact .inl (by decide +kernel) | exact .inr (by decide +kernel)) (by rw [isSubtype_type]; kernel_rfl)
theorem wd_set : typeLookup (.type "wrapper_descriptor") "__set__" = pure none := by rw [typeLookup_type, builtinLookup_eq_fast]; kernel_rfl
theorem wd_delete : typeLookup (.type "wrapper_descriptor") "__delete__" = pure none := by rw [typeLookup_type, builtinLookup_eq_fast]; kernel_rfl
theorem entry_wd_get : entryFor table "wrapper_descriptor.__get__" = some Builtin.«wrapper_descriptor.__get__» := entryFor_of_tree (by kernel_rfl)
theorem args_wd_get (a b c : Value) : argsOk "wrapper_descriptor.__get__" ⟨[a, b, c], []⟩ := by unfold argsOk; kernel_rfl
theorem owner_str_gi : (".".intercalate ("str.__getitem__".cutAt '.').dropLast) = "str" := by
  have e0 : "str.__getitem__".cutAt '.' = ["str", "__getitem__"] := by first | rfl | decide +kernel
  rw [e0]; decide +kernel
theorem sub_str_gi_owner : isSubtype (.type "str") (.type (".".intercalate ("str.__getitem__".cutAt '.').dropLast)) = pure true := by
  rw [owner_str_gi, isSubtype_type]; kernel_rfl

section
variable {prog : Program} {w : World} {A : Around} {E : Value → Shared → Prop} {h : Heap} {g : Array GenState} {d : Drawn} {t : Nat} {os : OsState} {x : PySem.Str} {u : Tok}
theorem gi_get_str {R : Result → Shared → Prop} (hq : ∀ b h' tk', Kp h h' → R (.ok (.ret (.ref b))) ⟨h', g, d, tk', os⟩) :
    codeAny (model prog w) A (.call (.builtin "wrapper_descriptor.__get__") ⟨[.builtin "str.__getitem__", .str x u, .type "str"], []⟩) R ⟨h, g, d, t, os⟩ := by
  have hT : (⟨h, g, d, t, os⟩ : Shared).TypeIs (.str x u) "str" := rfl
  have hT5 : (⟨h, g, d, t, os⟩ : Shared).TypeIs (.builtin "str.__getitem__") "wrapper_descriptor" := ty_str_gi
  have f8 := sub_str_gi_owner
  refine codeAny_call_builtin slot_wd_get.plain entry_wd_get (slot_wd_get.check _ _ _ _ _ _ _ _ hT5 (args_wd_get _ _ _) ?_)
  repeat (any_goals (first | assumption | wp_step))
  exact hq _ _ _ fun b o e => Heap.get?_push_of_some _ e
theorem gi_entry_str {tk : Tok} {Q : Fin → Shared → Prop} (hq : ∀ b h' tk', Kp h h' → Q (.done (.ret (.ref b))) ⟨h', g, d, tk', os⟩) :
    wpAny (model prog w) A (Builtin.«object.__getattribute__» ⟨[.str x u, .str "__getitem__" tk], []⟩) Q E ⟨h, g, d, t, os⟩ := by
  have hT : (⟨h, g, d, t, os⟩ : Shared).TypeIs (.str x u) "str" := rfl
  have hT5 : (⟨h, g, d, t, os⟩ : Shared).TypeIs (.builtin "str.__getitem__") "wrapper_descriptor" := ty_str_gi
  have f4 := lk_str_gi
  have f5 := ty_str_gi
  have f6 := slot_wd_get.lookup
  have f7 := wd_set
  have f8 := wd_delete
  repeat (any_goals (first | assumption | wp_step))
  refine gi_get_str fun v h' tk' k => ?_
  repeat (any_goals (first | assumption | wp_step))
  exact hq _ _ _ k
theorem gi_call_str {tk : Tok} {R : Result → Shared → Prop} (hq : ∀ b h' tk', Kp h h' → R (.ok (.ret (.ref b))) ⟨h', g, d, tk', os⟩) :
    codeAny (model prog w) A (.call (.builtin "object.__getattribute__") ⟨[.str x u, .str "__getitem__" tk], []⟩) R ⟨h, g, d, t, os⟩ :=
  codeAny_call_builtin F.slot_str_getattribute.plain F.entry_object_getattribute (F.slot_str_getattribute.check _ _ _ _ _ _ _ _ (show (⟨h, g, d, t, os⟩ : Shared).TypeIs (.str x u) "str" from rfl) (F.args_object_getattribute_2 _ _) (gi_entry_str hq))
theorem gi_by_str {tk : Tok} {Q : Value → Shared → Prop} (hq : ∀ b h' tk', Kp h h' → Q (.ref b) ⟨h', g, d, tk', os⟩) : wpAny (model prog w) A (getAttrBy (.str x u) (.str "__getitem__" tk) false) Q E ⟨h, g, d, t, os⟩ := by
  have hT : (⟨h, g, d, t, os⟩ : Shared).TypeIs (.str x u) "str" := rfl
  have f2 := F.slot_str_getattribute.lookup
  have f3 := F.slot_str_getattribute.bind (.str x u)
  repeat (any_goals (first | assumption | wp_step))
  refine gi_call_str fun v h' tk' k => ?_
  repeat (any_goals (first | assumption | wp_step))
  exact hq _ _ _ k
end
end
-- WH2
section
section
variable {w : World} {A : Around} {E : Value → Shared → Prop} {h : Heap} {g : Array GenState} {d : Drawn} {t : Nat} {os : OsState} {x : PySem.Str} {u : Tok}
set_option maxHeartbeats 4000000 in
theorem hasattr_str {tk : Tok} {Q : Value → Shared → Prop} (hq : ∀ h' tk', Kp h h' → Q (.bool true) ⟨h', g, d, tk', os⟩) : wpAny (model pw w) A (call (.builtin "hasattr") [.str x u, .str "__getitem__" tk]) Q E ⟨h, g, d, t, os⟩ := by
  have hT : (⟨h, g, d, t, os⟩ : Shared).TypeIs (.str x u) "str" := rfl
  have f2 := F.slot_str_getattribute.lookup
  have f4 := lk_str_gi
  have f5 := ty_str_gi
  refine call_function_any (b := Builtin.«hasattr») (by kernel_rfl) (by decide +kernel) (entryFor_of_tree (by kernel_rfl)) (by unfold argsOk; kernel_rfl) ?_
  unfold Builtin.«hasattr» getAttrBy?
  repeat (any_goals (first | assumption | (with_reducible refine gi_by_str fun v h' tk' k => ?_) | wp_step))
  exact hq _ _ k
end
end
-- WH3
section
theorem lk_list_gi : typeLookup (.type "list") "__getitem__" = pure (some (.builtin "list.__getitem__")) := by rw [typeLookup_type, builtinLookup_eq_fast]; kernel_rfl
theorem ty_list_gi : typeOf (.builtin "list.__getitem__") = pure (.type "method_descriptor") := by kernel_rfl
theorem slot_md_get : Slot "method_descriptor" "__get__" "method_descriptor.__get__" :=
  .of (owner := "method_descriptor") (n := "__get__") (by rw [typeLookup_type, builtinLookup_eq_fast]; kernel_rfl) (by decide +kernel) (by decide +kernel) (by decide +kernel)
    (by first | exact .inl (by decide +kernel) | exact .inr (by decide +kernel)) (by rw [isSubtype_type]; kernel_rfl)
theorem md_set : typeLookup (.type "method_descriptor") "__set__" = pure none := by rw [typeLookup_type, builtinLookup_eq_fast]; kernel_rfl
theorem md_delete : typeLookup (.type "method_descriptor") "__delete__" = pure none := by rw [typeLookup_type, builtinLookup_eq_fast]; kernel_rfl
theorem entry_md_get : entryFor table "method_descriptor.__get__" = some Builtin.«method_descriptor.__get__» := entryFor_of_tree (by kernel_rfl)
theorem args_md_get (a b c : Value) : argsOk "method_descriptor.__get__" ⟨[a, b, c], []⟩ := by unfold argsOk; kernel_rfl
theorem owner_list_gi : (".".intercalate ("list.__getitem__".cutAt '.').dropLast) = "list" := by
  have e0 : "list.__getitem__".cutAt '.' = ["list", "__getitem__"] := by first | rfl | decide +kernel
  rw [e0]; decide +kernel
theorem sub_list_gi_owner : isSubtype (.type "list") (.type (".".intercalate ("list.__getitem__".cutAt '.').dropLast)) = pure true := by
  rw [owner_list_gi, isSubtype_type]; kernel_rfl

section
variable {prog : Program} {w : World} {A : Around} {E : Value → Shared → Prop} {h : Heap} {g : Array GenState} {d : Drawn} {t : Nat} {os : OsState} {a : Addr} {its : Array Value} {n : Nat} (hx : h.get? a = some { cls := .type "list", data := .seq its n })
include hx
theorem gi_get_list {R : Result → Shared → Prop} (hq : ∀ b h' tk', Kp h h' → R (.ok (.ret (.ref b))) ⟨h', g, d, tk', os⟩) :
    codeAny (model prog w) A (.call (.builtin "method_descriptor.__get__") ⟨[.builtin "list.__getitem__", .ref a, .type "list"], []⟩) R ⟨h, g, d, t, os⟩ := by
  have hT : (⟨h, g, d, t, os⟩ : Shared).TypeIs (.ref a) "list" := ⟨_, hx, rfl⟩
  have hT5 : (⟨h, g, d, t, os⟩ : Shared).TypeIs (.builtin "list.__getitem__") "method_descriptor" := ty_list_gi
  have f8 := sub_list_gi_owner
  refine codeAny_call_builtin slot_md_get.plain entry_md_get (slot_md_get.check _ _ _ _ _ _ _ _ hT5 (args_md_get _ _ _) ?_)
  repeat (any_goals (first | assumption | wp_step))
  exact hq _ _ _ fun b o e => Heap.get?_push_of_some _ e
theorem gi_entry_list {tk : Tok} {Q : Fin → Shared → Prop} (hq : ∀ b h' tk', Kp h h' → Q (.done (.ret (.ref b))) ⟨h', g, d, tk', os⟩) :
    wpAny (model prog w) A (Builtin.«object.__getattribute__» ⟨[.ref a, .str "__getitem__" tk], []⟩) Q E ⟨h, g, d, t, os⟩ := by
  have hT : (⟨h, g, d, t, os⟩ : Shared).TypeIs (.ref a) "list" := ⟨_, hx, rfl⟩
  have hT5 : (⟨h, g, d, t, os⟩ : Shared).TypeIs (.builtin "list.__getitem__") "method_descriptor" := ty_list_gi
  have f4 := lk_list_gi
  have f5 := ty_list_gi
  have f6 := slot_md_get.lookup
  have f7 := md_set
  have f8 := md_delete
  repeat (any_goals (first | assumption | wp_step))
  refine gi_get_list hx fun v h' tk' k => ?_
  repeat (any_goals (first | assumption | wp_step))
  exact hq _ _ _ k
theorem gi_call_list {tk : Tok} {R : Result → Shared → Prop} (hq : ∀ b h' tk', Kp h h' → R (.ok (.ret (.ref b))) ⟨h', g, d, tk', os⟩) :
    codeAny (model prog w) A (.call (.builtin "list.__getattribute__") ⟨[.ref a, .str "__getitem__" tk], []⟩) R ⟨h, g, d, t, os⟩ :=
  codeAny_call_builtin F.slot_list_getattribute.plain F.entry_list_ga (F.slot_list_getattribute.check _ _ _ _ _ _ _ _ (show (⟨h, g, d, t, os⟩ : Shared).TypeIs (.ref a) "list" from ⟨_, hx, rfl⟩) (F.args_list_getattribute_2 _ _) (gi_entry_list hx hq))
theorem gi_by_list {tk : Tok} {Q : Value → Shared → Prop} (hq : ∀ b h' tk', Kp h h' → Q (.ref b) ⟨h', g, d, tk', os⟩) : wpAny (model prog w) A (getAttrBy (.ref a) (.str "__getitem__" tk) false) Q E ⟨h, g, d, t, os⟩ := by
  have hT : (⟨h, g, d, t, os⟩ : Shared).TypeIs (.ref a) "list" := ⟨_, hx, rfl⟩
  have f2 := F.slot_list_getattribute.lookup
  have f3 := F.slot_list_getattribute.bind (.ref a)
  repeat (any_goals (first | assumption | wp_step))
  refine gi_call_list hx fun v h' tk' k => ?_
  repeat (any_goals (first | assumption | wp_step))
  exact hq _ _ _ k
end
end
-- WH4
section
section
variable {w : World} {A : Around} {E : Value → Shared → Prop} {h : Heap} {g : Array GenState} {d : Drawn} {t : Nat} {os : OsState} {a : Addr} {its : Array Value} {n : Nat} (hx : h.get? a = some { cls := .type "list", data := .seq its n })
include hx
set_option maxHeartbeats 4000000 in
theorem hasattr_list {tk : Tok} {Q : Value → Shared → Prop} (hq : ∀ h' tk', Kp h h' → Q (.bool true) ⟨h', g, d, tk', os⟩) : wpAny (model pw w) A (call (.builtin "hasattr") [.ref a, .str "__getitem__" tk]) Q E ⟨h, g, d, t, os⟩ := by
  have hT : (⟨h, g, d, t, os⟩ : Shared).TypeIs (.ref a) "list" := ⟨_, hx, rfl⟩
  have f2 := F.slot_list_getattribute.lookup
  have f4 := lk_list_gi
  have f5 := ty_list_gi
  have f6 : isSubtype (.type "list") (.type "module") = pure false := by rw [isSubtype_type]; kernel_rfl
  refine call_function_any (b := Builtin.«hasattr») (by kernel_rfl) (by decide +kernel) (entryFor_of_tree (by kernel_rfl)) (by unfold argsOk; kernel_rfl) ?_
  unfold Builtin.«hasattr» getAttrBy?
  repeat (any_goals (first | assumption | (with_reducible refine gi_by_list hx fun v h' tk' k => ?_) | wp_step))
  exact hq _ _ (by assumption)
end
end
-- WH5
section
theorem Fr.kp {h₀ h h' : Heap} {L : Addr} {m : PySem.Str → Option Value} (F : Fr h₀ L h m) (k : Kp h h') : Fr h₀ L h' m :=
  ⟨F.ns.at' fun o e => k _ o e, fun b o e => k b o (F.keep b o e), F.above⟩
theorem fresh_old {h₀ h : Heap} {D : Addr} (k : Kp h₀ h) (e : h.get? D = none) : h₀.get? D = none := by
  cases q : h₀.get? D with
  | none => rfl
  | some o => rw [k _ _ q] at e; cases e
theorem get_size (h : Heap) : h.get? h.objs.size = none := Heap.get?_none_of_le (Nat.le_refl _)
end
section
local macro_rules | `(tactic| walk_at "own n") => `(tactic| with_reducible first | exact n_prettyflags _ | exact n_le _ | exact n_eq _ | exact n_lshift _ | exact n_neg _ | exact n_or _ | exact n_concat _ | exact n_countOf _ | exact n_getitem _ | exact n_indexOf _ | exact n_setitem _ | exact n_intableb1 _ | exact n_maptableb3 _ | exact n_intablec11 _ | exact n_substitutioncost _ | exact n_levenshteindistance _ | exact n_lawslip _ | exact n_lawdrawn _ | exact n_lawtyped _ | exact n_lawheard _ | exact n_lawbysixteens _ | exact n_flagnames _ | exact n_b1set _ | exact n_b3exc _)
local macro_rules | `(tactic| walk_at "eval Name") => `(tactic| ((name_kind "globalImplicit"); with_unfolding_all refine name_K (by assumption) (by assumption) (topRead_of (by assumption)) (by walk_at "own n") ?_))
local macro_rules | `(tactic| walk_at "getMethod ref") => `(tactic| ((rename Frag.In _ _ => KX'); (rename Fr _ _ _ _ => F'); first
  | refine map_method (map15 (KX'.keeps F'.keep)) ?_
  | refine map_method (map111 (KX'.keeps F'.keep)) ?_))
local macro_rules | `(tactic| walk_at "call builtin:dict.get") => `(tactic| ((rename Frag.In _ _ => KX'); (rename Fr _ _ _ _ => F'); first
  | refine map_get2 (map15 (KX'.keeps F'.keep)) (by rfl) ?_
  | refine map_get1 (map111 (KX'.keeps F'.keep)) (by rfl) ?_))
local macro_rules | `(tactic| walk_at "compareOp In int ref") => `(tactic| ((rename Frag.In _ _ => KX'); (rename Fr _ _ _ _ => F'); refine wpAny_inSet_of (intKind_is pw _ _ _) (by rfl) (set100 (KX'.keeps F'.keep)) ?_))
local macro_rules | `(tactic| walk_at "eval Name") => `(tactic| ((with_reducible show wpAny _ _ (eval (Expr.Name _ _) (envOf _ _ _ _ _)) _ _ _); (name_kind "local"); (rename Fr _ _ _ _ => F'); (try (conv => arg 6; dsimp only)); refine ld F' (by first | assumption | with_unfolding_all assumption) ?_ (by kernel_rfl) (by kernel_rfl) (by kernel_rfl)))
local macro_rules | `(tactic| walk_at "loadName") => `(tactic| ((with_reducible show wpAny _ _ (loadName (envOf _ _ _ _ _) _) _ _ _); (rename Fr _ _ _ _ => F'); refine ldn F' (by assumption) ?_ (by kernel_rfl) (by kernel_rfl)))
local macro_rules | `(tactic| walk_at "fm") => `(tactic| ((try simp only [fdivN, fmodN, show (4 : Int) = ((4 : Nat) : Int) from rfl, show (80 : Int) = ((80 : Nat) : Int) from rfl, show (26 : Int) = ((26 : Nat) : Int) from rfl]); omega))
local macro_rules | `(tactic| walk_at "subscriptTail Name Slice str ref") => `(tactic| ((with_reducible rename Fr _ _ _ _ => F'); (with_reducible rename News _ _ _ _ => N'); (first
  | ((with_reducible show wpAny _ _ (subscriptTail _ (Expr.Slice none (some (Expr.BoolOp _ _ _)) none _) _ _) _ _ _); refine slice_strN_nn_len (s := ⟨_, _, _, _, _⟩) F' N' ?_; intro _ _ _ _ _ _)
  | ((with_reducible show wpAny _ _ (subscriptTail _ (Expr.Slice none (some _) none _) _ _) _ _ _); refine slice_strN_ns_len (s := ⟨_, _, _, _, _⟩) F' N' ?_; intro _ _ _ _ _ _)
  | ((with_reducible show wpAny _ _ (subscriptTail _ (Expr.Slice (some _) none none _) _ _) _ _ _); refine slice_strN_sn_len (s := ⟨_, _, _, _, _⟩) F' N' ?_; intro _ _ _ _ _ _)); (try (conv => arg 6; dsimp only)); clear F' N'))
-- WPretty
section
local macro_rules | `(tactic| walk_at "call builtin:str.join") => `(tactic| ((rename News _ _ _ _ => N'); (refine join_listW (News.isList N' ?hm) ?hs ?hl ?hw ?_); (case hm => first | exact .head _ | exact .tail _ (.head _)); (case hs => first | assumption | (apply strs_push; assumption)); (case hl => decide); (case hw => assumption); intro _ _))
local macro_rules | `(tactic| walk_at "call builtin:list.append") => `(tactic| ((rename Fr _ _ _ _ => F'); (rename News _ _ _ _ => N'); first
  | (with_unfolding_all refine append_head (hsz := ?hz) F' N' ?ha ?_; (case hz => assumption); (case ha => first | assumption | (intro _ hp'; cases hp')); intro _ _ _)
  | (with_unfolding_all refine append_second (hsz := ?hz) F' N' ?h1 ?ha ?_; (case hz => assumption); (case h1 => assumption); (case ha => first | assumption | (intro _ hp'; cases hp')); intro _ _ _)))
local macro_rules | `(tactic| walk_at "call builtin:dict.get") => `(tactic| ((rename Frag.In _ _ => KX'); (rename Fr _ _ _ _ => F'); (refine flag_get (KX'.keeps F'.keep) (by assumption) ?_); intro _))


local macro_rules | `(tactic| walk_at "call builtin:hex") => `(tactic| first
  | (refine P.hex_of_int ?_ (hexfit_pow (by assumption)))
  | (refine P.hex_of_int ?_ (hexfit (by omega) (by omega))))
set_option maxHeartbeats 4000000 in
theorem pretty_c {w : World} {s : Shared} {A : Around} {Q : Value → Shared → Prop} {E : Value → Shared → Prop} {a : Int} {t : Tok} (g : GF w s.heap) (hA : A.depth ≤ 420) (hU : A.units ≤ 100) (hh : A.handled = none) (ha : -100000000000 ≤ a) (ha2 : a ≤ 100000000000)
    (ret : ∀ t' h' tk', Kp s.heap h' → Q (.str (Txt.join (PySem.Str.ofString ", ") (prettyS a)) t') { s with heap := h', toks := tk' }) :
    wpAny (model pw w) A (call (.ref 22) [.int a t]) Q E s := by
  obtain ⟨o, ho, hd, hcd⟩ := fn_at g (k_prettyflags _) (c_prettyflags _)
  obtain ⟨s₀, mg, mb, T, GL, KX⟩ := g.open
  conv at hd => pattern fdB 2; whnf
  conv at hd => pattern fdP 2; whnf
  conv at hd => pattern fdS 2; whnf
  refine wpAny_call (call_pos_ret (Nat.lt_of_le_of_lt hA (by decide)) ho hd GL.nolimit hcd (by rfl) (locs (by rfl)) (fun h₁ F => ?_))
  clear hd ho hcd
  dsimp only [List.map, List.zip, List.zipWith]
  have N := News.nil (h₀ := s.heap) (h := h₁) (L := s.heap.objs.size)
  w_on
  wrow_steps
  all_goals (try dsimp only)
  rename Fr _ _ _ _ => F'
  with_unfolding_all refine For_at F' (by rfl) (by rfl) ?_
  wrow_steps
  dsimp only
  rename Fr _ _ _ _ => F2
  rename News _ _ _ _ => N2
  refine ForAt.range (n := 32) (J := prettyJ a _) hh (by assumption) (by decide) (by decide) F2 N2 ⟨a, t, [], #[], 0, rfl, rfl, rfl, .nil, by simp, by simp, rfl, by simp; (first | lia | omega), by (first | lia | omega)⟩ ?_ ?_
  · clear N2 F2
    rintro i t m₁ news₁ h tk I o hi ⟨fl, tf, acc, vs, c, hmf, hmn, rfl, hs, hlen, hle, hp, hb1, hb2⟩ hoff F₁ N₁
    have hID := fun e => hoff _ (.head _) (Eq.symm e)
    dsimp only at hID
    have hsz := size_lt hs hlen (by (first | lia | omega))
    rw [show (0:Int) + (i:Int)*1 = (i:Int) by (first | lia | omega)] at F₁
    wrow_steps
    · have e1 := bit_one (by assumption)
      rename Fr _ _ _ _ => Fe
      rename News _ _ _ _ => Ne
      refine LStep.next Fe Ne _ (fun p hp => by simpa using hp) (fun p hp => ?_) ⟨_, _, acc ++ [flagName i], _, _, rfl, hmn, rfl, strs_push hs _ _, by simp; (first | lia | omega), all_snoc hle (flagName_len hi), ?_, ?_, ?_⟩
      · rw [List.mem_singleton.mp hp]; exact fun e => hID e.symm
      · rw [bit_xor e1]
        exact pretty_take hi hp e1 (by rw [← bit_xor e1]; assumption)
      · rw [bit_xor e1, pow_succ']; (first | lia | omega)
      · rw [bit_xor e1]; have := pow_pos' i; (first | lia | omega)
    · have e1 := bit_one (by assumption)
      have hw := join_fits (all_snoc hle (flagName_len hi)) (by simp; (first | lia | omega))
      refine LStep.brk ?_
      dsimp only
      wrow_steps
      all_goals (try dsimp only)
      refine join_listW (News.isList (by assumption) (.tail _ (.head _))) (strs_push hs _ _) (by decide) hw ?_
      intro _ _
      rename Fr _ _ _ _ => Fe
      refine str_end ret Fe ?_
      rw [pretty_last hi hp e1 (by rw [← bit_xor e1]; simp_all)]
    · have e1 := bit_zero (by assumption)
      rename Fr _ _ _ _ => Fe
      rename News _ _ _ _ => Ne
      refine LStep.next Fe Ne _ (fun p hp => by simpa using hp) (fun p hp => ?_) ⟨_, _, acc, _, _, hmf, hmn, rfl, hs, by (first | lia | omega), hle, pretty_skip hi hp e1, ?_, hb2⟩
      · rw [List.mem_singleton.mp hp]; exact fun e => hID e.symm
      · have := pow_pos' i; rw [pow_succ']; (first | lia | omega)
  · clear N2 F2
    rintro h tk m₁ news₁ F₁ N₁ ⟨fl, tf, acc, vs, c, hmf, hmn, rfl, hs, hlen, hle, hp, hb1, hb2⟩
    have hsz := size_lt hs hlen (by (first | lia | omega))
    have hb3 : a - 4294967296 < fl := hb1
    have hw := join_fits (all_snoc hle (hexlen (i := fl) (by (first | lia | omega)) (by (first | lia | omega)))) (by simp; (first | lia | omega))
    wrow_steps
    all_goals (try dsimp only)
    refine join_listW (News.isList (by assumption) (.head _)) (strs_push hs _ _) (by decide) hw ?_
    intro _ _
    rename Fr _ _ _ _ => Fe
    refine str_end ret Fe ?_
    rw [pretty_else hp]
end
-- WC
section
local macro_rules | `(tactic| walk_at "call builtin:chr") => `(tactic| (refine chr_of_range (by rw [fd80, fm26]; omega) (by rw [fd80, fm26]; omega) ?_))
local macro_rules | `(tactic| walk_at "subscriptTail Name Name str int") => `(tactic| (refine item_str_fmod (by omega) (by omega) (by omega) ?_; intro _))
set_option maxHeartbeats 4000000 in
theorem slip_c0 {w : World} {s : Shared} {A : Around} {Q : Value → Shared → Prop} {E : Value → Shared → Prop} {x : PySem.Str} {l : List Nat} {n : Nat} {t u : Tok} (hx : x = sL l) (g : GF w s.heap) (hA : A.depth ≤ 400) (hl1 : 0 < x.length) (hl2 : x.length ≤ 40) (hn1 : n < 1000000)
    (ret : ∀ t' h' tk', Kp s.heap h' → Q (.str (sL (slip l n)) t') { s with heap := h', toks := tk' }) :
    wpAny (model pw w) A (call (.ref 184) [.str x t, .int (n : Int) u]) Q E s := by
  obtain ⟨o, ho, hd, hcd⟩ := fn_at g (k_lawslip _) (c_lawslip _)
  obtain ⟨s₀, mg, mb, T, GL, KX⟩ := g.open
  conv at hd => pattern fdB 27; whnf
  conv at hd => pattern fdP 27; whnf
  conv at hd => pattern fdS 27; whnf
  refine wpAny_call (call_pos_ret (Nat.lt_of_le_of_lt hA (by decide)) ho hd GL.nolimit hcd (by rfl) (locs (by rfl)) (fun h₁ F => ?_))
  clear hd ho hcd
  dsimp only [List.map, List.zip, List.zipWith]
  w_on
  wrow_steps
  all_goals (try dsimp only)
  all_goals refine slip_end ret (by assumption) ?_
  all_goals subst hx
  · exact slip_1 (by assumption) (by assumption)
  · exact slip_2 (by assumption) (by assumption) (by assumption)
  · exact slip_3 (by assumption) (by assumption) (by assumption) (by assumption) (eq_of_beq (by assumption))
  · exact slip_4 (by assumption) (by assumption) (by assumption) (by assumption) (by first | exact ne_of_beq_false (by assumption) | exact fun q => absurd (beq_iff_eq.mpr q) (by assumption))
  · exact slip_5 (by assumption) (by assumption) (by assumption) (by assumption)
theorem slip_c {w : World} {s : Shared} {A : Around} {Q : Value → Shared → Prop} {E : Value → Shared → Prop} {l : List Nat} {n : Nat} {t u : Tok} (g : GF w s.heap) (hA : A.depth ≤ 400) (hl1 : 0 < l.length) (hl2 : l.length ≤ 40) (hn1 : n < 1000000)
    (ret : ∀ t' h' tk', Kp s.heap h' → Q (.str (sL (slip l n)) t') { s with heap := h', toks := tk' }) :
    wpAny (model pw w) A (call (.ref 184) [.str (sL l) t, .int (n : Int) u]) Q E s :=
  slip_c0 rfl g hA (by rw [sL_len]; exact hl1) (by rw [sL_len]; exact hl2) hn1 ret
end
-- WD
section
local macro_rules | `(tactic| walk_at "call builtin:dict.get") => `(tactic| ((rename Frag.In _ _ => KX'); (rename Fr _ _ _ _ => F'); (refine b3_get (KX'.keeps F'.keep) ?_ ?_) <;> intro _ _))
set_option maxHeartbeats 4000000 in
theorem le_c {w : World} {s : Shared} {A : Around} {Q : Value → Shared → Prop} {E : Value → Shared → Prop} {a b : Int} {t u : Tok} (g : GF w s.heap) (hA : A.depth ≤ 420) (hU : A.units ≤ 100) (hh : A.handled = none) 
    (ret : ∀ h' tk', Kp s.heap h' → Q (.bool (decide (a ≤ b))) { s with heap := h', toks := tk' }) :
    wpAny (model pw w) A (call (.ref 29) [.int a t, .int b u]) Q E s := by
  obtain ⟨o, ho, hd, hcd⟩ := fn_at g (k_le _) (c_le _)
  obtain ⟨s₀, mg, mb, T, GL, KX⟩ := g.open
  conv at hd => pattern fdB 4; whnf
  conv at hd => pattern fdP 4; whnf
  conv at hd => pattern fdS 4; whnf
  refine wpAny_call (call_pos_ret (Nat.lt_of_le_of_lt hA (by decide)) ho hd GL.nolimit hcd (by rfl) (locs (by rfl)) (fun h₁ F => ?_))
  clear hd ho hcd
  dsimp only [List.map, List.zip, List.zipWith]
  have N := News.nil (h₀ := s.heap) (h := h₁) (L := s.heap.objs.size)
  w_on
  wrow_steps
  all_goals (try dsimp only)
  all_goals exact bool_end ret (by assumption) rfl
set_option maxHeartbeats 4000000 in
theorem eq_c {w : World} {s : Shared} {A : Around} {Q : Value → Shared → Prop} {E : Value → Shared → Prop} {a b : PySem.Str} {t u : Tok} (g : GF w s.heap) (hA : A.depth ≤ 420) (hU : A.units ≤ 100) (hh : A.handled = none) 
    (ret : ∀ h' tk', Kp s.heap h' → Q (.bool (a == b)) { s with heap := h', toks := tk' }) :
    wpAny (model pw w) A (call (.ref 36) [.str a t, .str b u]) Q E s := by
  obtain ⟨o, ho, hd, hcd⟩ := fn_at g (k_eq _) (c_eq _)
  obtain ⟨s₀, mg, mb, T, GL, KX⟩ := g.open
  conv at hd => pattern fdB 5; whnf
  conv at hd => pattern fdP 5; whnf
  conv at hd => pattern fdS 5; whnf
  refine wpAny_call (call_pos_ret (Nat.lt_of_le_of_lt hA (by decide)) ho hd GL.nolimit hcd (by rfl) (locs (by rfl)) (fun h₁ F => ?_))
  clear hd ho hcd
  dsimp only [List.map, List.zip, List.zipWith]
  have N := News.nil (h₀ := s.heap) (h := h₁) (L := s.heap.objs.size)
  w_on
  wrow_steps
  all_goals (try dsimp only)
  all_goals exact bool_end ret (by assumption) rfl
set_option maxHeartbeats 4000000 in
theorem neg_c {w : World} {s : Shared} {A : Around} {Q : Value → Shared → Prop} {E : Value → Shared → Prop} {a : Int} {t : Tok} (g : GF w s.heap) (hA : A.depth ≤ 420) (hU : A.units ≤ 100) (hh : A.handled = none) 
    (ret : ∀ t' h' tk', Kp s.heap h' → Q (.int (-a) t') { s with heap := h', toks := tk' }) :
    wpAny (model pw w) A (call (.ref 50) [.int a t]) Q E s := by
  obtain ⟨o, ho, hd, hcd⟩ := fn_at g (k_neg _) (c_neg _)
  obtain ⟨s₀, mg, mb, T, GL, KX⟩ := g.open
  conv at hd => pattern fdB 7; whnf
  conv at hd => pattern fdP 7; whnf
  conv at hd => pattern fdS 7; whnf
  refine wpAny_call (call_pos_ret (Nat.lt_of_le_of_lt hA (by decide)) ho hd GL.nolimit hcd (by rfl) (locs (by rfl)) (fun h₁ F => ?_))
  clear hd ho hcd
  dsimp only [List.map, List.zip, List.zipWith]
  have N := News.nil (h₀ := s.heap) (h := h₁) (L := s.heap.objs.size)
  w_on
  wrow_steps
  all_goals (try dsimp only)
  all_goals exact int_end ret (by assumption) rfl
set_option maxHeartbeats 4000000 in
theorem or_c {w : World} {s : Shared} {A : Around} {Q : Value → Shared → Prop} {E : Value → Shared → Prop} {a b : Int} {t u : Tok} (g : GF w s.heap) (hA : A.depth ≤ 420) (hU : A.units ≤ 100) (hh : A.handled = none) 
    (ret : ∀ t' h' tk', Kp s.heap h' → Q (.int (Builtin.bitOr a b) t') { s with heap := h', toks := tk' }) :
    wpAny (model pw w) A (call (.ref 57) [.int a t, .int b u]) Q E s := by
  obtain ⟨o, ho, hd, hcd⟩ := fn_at g (k_or _) (c_or _)
  obtain ⟨s₀, mg, mb, T, GL, KX⟩ := g.open
  conv at hd => pattern fdB 8; whnf
  conv at hd => pattern fdP 8; whnf
  conv at hd => pattern fdS 8; whnf
  refine wpAny_call (call_pos_ret (Nat.lt_of_le_of_lt hA (by decide)) ho hd GL.nolimit hcd (by rfl) (locs (by rfl)) (fun h₁ F => ?_))
  clear hd ho hcd
  dsimp only [List.map, List.zip, List.zipWith]
  have N := News.nil (h₀ := s.heap) (h := h₁) (L := s.heap.objs.size)
  w_on
  wrow_steps
  all_goals (try dsimp only)
  all_goals exact int_end ret (by assumption) rfl
set_option maxHeartbeats 4000000 in
theorem lshift_c {w : World} {s : Shared} {A : Around} {Q : Value → Shared → Prop} {E : Value → Shared → Prop} {a b : Int} {t u : Tok} (g : GF w s.heap) (hA : A.depth ≤ 420) (hU : A.units ≤ 100) (hh : A.handled = none) (hb0 : 0 ≤ b) (hb : b ≤ 40) (ha : -16 ≤ a) (ha2 : a ≤ 16)
    (ret : ∀ t' h' tk', Kp s.heap h' → Q (.int (a * 2 ^ b.toNat) t') { s with heap := h', toks := tk' }) :
    wpAny (model pw w) A (call (.ref 43) [.int a t, .int b u]) Q E s := by
  obtain ⟨o, ho, hd, hcd⟩ := fn_at g (k_lshift _) (c_lshift _)
  obtain ⟨s₀, mg, mb, T, GL, KX⟩ := g.open
  conv at hd => pattern fdB 6; whnf
  conv at hd => pattern fdP 6; whnf
  conv at hd => pattern fdS 6; whnf
  refine wpAny_call (call_pos_ret (Nat.lt_of_le_of_lt hA (by decide)) ho hd GL.nolimit hcd (by rfl) (locs (by rfl)) (fun h₁ F => ?_))
  clear hd ho hcd
  dsimp only [List.map, List.zip, List.zipWith]
  have N := News.nil (h₀ := s.heap) (h := h₁) (L := s.heap.objs.size)
  w_on
  wrow_steps
  all_goals (try dsimp only)
  all_goals exact int_end ret (by assumption) rfl
set_option maxHeartbeats 4000000 in
theorem c11_c {w : World} {s : Shared} {A : Around} {Q : Value → Shared → Prop} {E : Value → Shared → Prop} {a : PySem.Str} {t : Tok} (g : GF w s.heap) (hA : A.depth ≤ 420) (hU : A.units ≤ 100) (hh : A.handled = none) 
    (ret : ∀ h' tk', Kp s.heap h' → Q (.bool (a == sL [32])) { s with heap := h', toks := tk' }) :
    wpAny (model pw w) A (call (.ref 163) [.str a t]) Q E s := by
  obtain ⟨o, ho, hd, hcd⟩ := fn_at g (k_intablec11 _) (c_intablec11 _)
  obtain ⟨s₀, mg, mb, T, GL, KX⟩ := g.open
  conv at hd => pattern fdB 19; whnf
  conv at hd => pattern fdP 19; whnf
  conv at hd => pattern fdS 19; whnf
  refine wpAny_call (call_pos_ret (Nat.lt_of_le_of_lt hA (by decide)) ho hd GL.nolimit hcd (by rfl) (locs (by rfl)) (fun h₁ F => ?_))
  clear hd ho hcd
  dsimp only [List.map, List.zip, List.zipWith]
  have N := News.nil (h₀ := s.heap) (h := h₁) (L := s.heap.objs.size)
  w_on
  wrow_steps
  all_goals (try dsimp only)
  all_goals exact bool_end ret (by assumption) (by rw [show PySem.Str.ofString " " = sL [32] by kernel_rfl])
set_option maxHeartbeats 4000000 in
theorem sub_c {w : World} {s : Shared} {A : Around} {Q : Value → Shared → Prop} {E : Value → Shared → Prop} {a b : PySem.Str} {t u : Tok} (g : GF w s.heap) (hA : A.depth ≤ 420) (hU : A.units ≤ 100) (hh : A.handled = none) (ha : a.length ≤ 1000) (hb : b.length ≤ 1000)
    (ret : ∀ t' h' tk', Kp s.heap h' → Q (.int (if a == b then 0 else if Txt.lower a == Txt.lower b then 1 else 2) t') { s with heap := h', toks := tk' }) :
    wpAny (model pw w) A (call (.ref 170) [.str a t, .str b u]) Q E s := by
  obtain ⟨o, ho, hd, hcd⟩ := fn_at g (k_substitutioncost _) (c_substitutioncost _)
  obtain ⟨s₀, mg, mb, T, GL, KX⟩ := g.open
  conv at hd => pattern fdB 24; whnf
  conv at hd => pattern fdP 24; whnf
  conv at hd => pattern fdS 24; whnf
  refine wpAny_call (call_pos_ret (Nat.lt_of_le_of_lt hA (by decide)) ho hd GL.nolimit hcd (by rfl) (locs (by rfl)) (fun h₁ F => ?_))
  clear hd ho hcd
  dsimp only [List.map, List.zip, List.zipWith]
  have N := News.nil (h₀ := s.heap) (h := h₁) (L := s.heap.objs.size)
  w_on
  wrow_steps
  all_goals (try dsimp only)
  all_goals refine int_end ret (by assumption) ?_
  all_goals simp_all
set_option maxHeartbeats 4000000 in
theorem b1_c {w : World} {s : Shared} {A : Around} {Q : Value → Shared → Prop} {E : Value → Shared → Prop} {c : Nat} {t : Tok} (g : GF w s.heap) (hA : A.depth ≤ 420) (hU : A.units ≤ 100) (hh : A.handled = none) 
    (ret : ∀ h' tk', Kp s.heap h' → Q (.bool (inB1 (c : Int))) { s with heap := h', toks := tk' }) :
    wpAny (model pw w) A (call (.ref 110) [.str ⟨#[c]⟩ t]) Q E s := by
  obtain ⟨o, ho, hd, hcd⟩ := fn_at g (k_intableb1 _) (c_intableb1 _)
  obtain ⟨s₀, mg, mb, T, GL, KX⟩ := g.open
  conv at hd => pattern fdB 16; whnf
  conv at hd => pattern fdP 16; whnf
  conv at hd => pattern fdS 16; whnf
  refine wpAny_call (call_pos_ret (Nat.lt_of_le_of_lt hA (by decide)) ho hd GL.nolimit hcd (by rfl) (locs (by rfl)) (fun h₁ F => ?_))
  clear hd ho hcd
  dsimp only [List.map, List.zip, List.zipWith]
  have N := News.nil (h₀ := s.heap) (h := h₁) (L := s.heap.objs.size)
  w_on
  wrow_steps
  all_goals (try dsimp only)
  all_goals exact bool_end ret (by assumption) rfl
set_option maxHeartbeats 4000000 in
theorem b3_c {w : World} {s : Shared} {A : Around} {Q : Value → Shared → Prop} {E : Value → Shared → Prop} {c : Nat} {t : Tok} (g : GF w s.heap) (hA : A.depth ≤ 420) (hU : A.units ≤ 100) (hh : A.handled = none) (hl : (⟨#[c]⟩ : PySem.Str).length ≤ 1 := by exact Nat.le_refl _)
    (ret : ∀ t' h' tk', Kp s.heap h' → Q (.str (b3S c) t') { s with heap := h', toks := tk' }) :
    wpAny (model pw w) A (call (.ref 156) [.str ⟨#[c]⟩ t]) Q E s := by
  obtain ⟨o, ho, hd, hcd⟩ := fn_at g (k_maptableb3 _) (c_maptableb3 _)
  obtain ⟨s₀, mg, mb, T, GL, KX⟩ := g.open
  conv at hd => pattern fdB 18; whnf
  conv at hd => pattern fdP 18; whnf
  conv at hd => pattern fdS 18; whnf
  refine wpAny_call (call_pos_ret (Nat.lt_of_le_of_lt hA (by decide)) ho hd GL.nolimit hcd (by rfl) (locs (by rfl)) (fun h₁ F => ?_))
  clear hd ho hcd
  dsimp only [List.map, List.zip, List.zipWith]
  have N := News.nil (h₀ := s.heap) (h := h₁) (L := s.heap.objs.size)
  w_on
  wrow_steps
  all_goals (try dsimp only)
  · exact str_end ret (by assumption) rfl
  · exact str_end ret (by assumption) (Eq.symm (by assumption))
end
end
-- PLev
section
noncomputable def Halt (p : Prop) : Prop := p
theorem Halt.go {p : Prop} (h : Halt p) : p := h
theorem Halt.on {p : Prop} (h : p) : Halt p := h
noncomputable def stripPre : List Nat → List Nat → List Nat × List Nat
  | x :: xs, y :: ys => if x = y then stripPre xs ys else (x :: xs, y :: ys)
  | a, b => (a, b)
noncomputable def stripSuf (a b : List Nat) : List Nat × List Nat := ((stripPre a.reverse b.reverse).1.reverse, (stripPre a.reverse b.reverse).2.reverse)
noncomputable def subI (x y : Nat) : Int := if (⟨#[x]⟩ : PySem.Str) == ⟨#[y]⟩ then 0 else if Txt.lower (⟨#[x]⟩ : PySem.Str) == Txt.lower ⟨#[y]⟩ then 1 else 2
noncomputable def cellS (bc : Nat) : Int → Int → Int → List Int → List (Nat × Int) → Int × Int × List Int
  | _, r, mn, acc, [] => (r, mn, acc)
  | d, r, mn, acc, (ca, rv) :: rest => cellS bc rv (min (min r rv + 2) (d + subI bc ca)) (if min (min r rv + 2) (d + subI bc ca) < mn then min (min r rv + 2) (d + subI bc ca) else mn) (acc ++ [min (min r rv + 2) (d + subI bc ca)]) rest
noncomputable def rowsS (a : List Nat) : List Nat → Nat → List Int → Int → Int
  | [], _, _, res => res
  | bc :: bs, bi, row, _ => if (cellS bc (2 * bi) (2 * bi) 9223372036854775807 [] (a.zip row)).2.1 > 2 then 3 else rowsS a bs (bi + 1) (cellS bc (2 * bi) (2 * bi) 9223372036854775807 [] (a.zip row)).2.2 (cellS bc (2 * bi) (2 * bi) 9223372036854775807 [] (a.zip row)).1
noncomputable def row0 (n : Nat) : List Int := (List.range n).map fun (i : Nat) => 2 * ((i : Int) + 1)
noncomputable def dpS (a b : List Nat) : Int := if (b.length - a.length) * 2 > 2 then 3 else rowsS a b 0 (row0 a.length) 0
noncomputable def coreS (a b : List Nat) : Int := if a = [] ∨ b = [] then 2 * ((a.length : Int) + b.length) else if b.length < a.length then dpS b a else dpS a b
noncomputable def levS (a b : List Nat) : Int := if a = b then 0 else coreS (stripSuf (stripPre a b).1 (stripPre a b).2).1 (stripSuf (stripPre a b).1 (stripPre a b).2).2
end
-- WK
section
noncomputable def CutEnd (h₀ : Heap) (L : Addr) (s : Shared) (X : (Str → Option Value) → List (Addr × Obj) → Prop) (s' : Shared) : Prop :=
  ∃ h' tk m news, s' = { s with heap := h', toks := tk } ∧ Fr h₀ L h' m ∧ News h₀ L h' news ∧ X m news
theorem CutEnd.intro {h₀ h' : Heap} {L : Addr} {s : Shared} {X : (Str → Option Value) → List (Addr × Obj) → Prop} {tk : Nat} {m : Str → Option Value} {news : List (Addr × Obj)} (F : Fr h₀ L h' m) (N : News h₀ L h' news) (x : X m news) : CutEnd h₀ L s X { s with heap := h', toks := tk } :=
  ⟨h', tk, m, news, rfl, F, N, x⟩
noncomputable def CutFlow (h₀ : Heap) (L : Addr) (s : Shared) (X : (Str → Option Value) → List (Addr × Obj) → Prop) (Q : Flow → Shared → Prop) (f : Flow) (s' : Shared) : Prop :=
  match f with
  | .next => CutEnd h₀ L s X s'
  | f => Q f s'
section
variable {prog : Program} {w : World} {A : Around} {E : Value → Shared → Prop} {Q : Flow → Shared → Prop} {s : Shared} {env : Env} {h₀ : Heap} {L : Addr}
theorem While_cut {test : Expr} {body : List Stmt} {pos : Pos} {m : Str → Option Value} {news : List (Addr × Obj)} (J : Nat → (Str → Option Value) → List (Addr × Obj) → Prop) (X : (Str → Option Value) → List (Addr × Obj) → Prop) {n₀ : Nat}
    (F : Fr h₀ L s.heap m) (N : News h₀ L s.heap news) (hJ : J n₀ m news)
    (turn : ∀ n m₁ news₁ h₁ tk₁, Fr h₀ L h₁ m₁ → News h₀ L h₁ news₁ → J n m₁ news₁ →
      wpAny (model prog w) A (isTrue test env (eval test env)) (fun b s₂ =>
        if b = true then wpAny (model prog w) A (execs body env) (WhileStep h₀ L s J n) E s₂ else CutEnd h₀ L s X s₂) E { s with heap := h₁, toks := tk₁ })
    (rest : ∀ h tk m news, Fr h₀ L h m → News h₀ L h news → X m news → Q .next { s with heap := h, toks := tk })
    (hE : PassesOwn (model prog w) A env E := by passes_own) :
    wpAny (model prog w) A (exec (.While test body [] pos) env) Q E s := by
  refine wpAny_mono (While_inv (Q := fun f s' => f = .next ∧ CutEnd h₀ L s X s') J F N hJ (fun n m₁ news₁ h₁ tk₁ F₁ N₁ J₁ => wpAny_mono (turn n m₁ news₁ h₁ tk₁ F₁ N₁ J₁) (fun b s₂ h₂ => ?_) fun _ _ e => e) hE) (fun f s' h => ?_) fun _ _ e => e
  · cases b with
    | true => simpa using h₂
    | false => simp only [Bool.false_eq_true, if_false] at h₂ ⊢; exact ⟨trivial, h₂⟩
  · obtain ⟨rfl, h', tk, m', news', rfl, F', N', x⟩ := h
    exact rest _ _ _ _ F' N' x
theorem cut {M : Model} {P : Sem Flow} (X : (Str → Option Value) → List (Addr × Obj) → Prop) (h : wpAny M A P (CutFlow h₀ L s X Q) E s)
    (rest : ∀ h tk m news, Fr h₀ L h m → News h₀ L h news → X m news → Q .next { s with heap := h, toks := tk }) : wpAny M A P Q E s := by
  refine wpAny_mono h (fun f s' h => ?_) fun _ _ e => e
  cases f with
  | next =>
    obtain ⟨h', tk, m', news', rfl, F', N', x⟩ := h
    exact rest _ _ _ _ F' N' x
  | _ => exact h
end
end
-- PLev2
section
noncomputable def dStmt : Stmt := .Pass ⟨0, 0, 0, 0⟩
theorem lev_same {x y : PySem.Str} {a b : List Nat} (hx : x = sL a) (hy : y = sL b) (h : (x == y) = true) : (0 : Int) = levS a b := by
  have := eq_of_beq h
  subst hx; subst hy
  rw [sL_inj this]; unfold levS; rw [if_pos rfl]
theorem lev_ne {x y : PySem.Str} {a b : List Nat} (hx : x = sL a) (hy : y = sL b) (h : (x == y) = false) : a ≠ b := by
  intro e; subst hx; subst hy; subst e; simp at h
theorem drop_getD (a : List Nat) {p : Nat} (h : p < a.length) : a.drop p = a.getD p 0 :: a.drop (p + 1) := by
  rw [List.drop_eq_getElem_cons h]
  simp [List.getD, List.getElem?_eq_getElem h]
section
variable {x y : PySem.Str} {a b : List Nat} {p : Nat}
theorem item_eq (hx : x = sL a) (hy : y = sL b) (h1 : p < x.length) (h2 : p < y.length) : (Txt.item x (p : Int) == Txt.item y (p : Int)) = decide (a.getD p 0 = b.getD p 0) := by
  subst hx; subst hy
  rw [sL_len] at h1 h2
  rw [item_sL a p h1, item_sL b p h2]
  by_cases e : a.getD p 0 = b.getD p 0
  · rw [e]; simp
  · rw [decide_eq_false e]
    apply beq_false_of_ne
    intro q
    have := sL_inj q
    exact e (by simpa using this)
theorem lev_w1 (hx : x = sL a) (hy : y = sL b) (h1 : p < x.length) (h2 : p < y.length) (e : (Txt.item x (p : Int) == Txt.item y (p : Int)) = true)
    (k : stripPre a b = stripPre (a.drop p) (b.drop p)) : stripPre a b = stripPre (a.drop (p + 1)) (b.drop (p + 1)) := by
  rw [item_eq hx hy h1 h2] at e
  have e := of_decide_eq_true e
  rw [hx, sL_len] at h1; rw [hy, sL_len] at h2
  rw [k, drop_getD a h1, drop_getD b h2, stripPre, if_pos e]
theorem lev_w1n (hx : x = sL a) (hy : y = sL b) (h1 : p < x.length) (h2 : p < y.length) (e : (Txt.item x (p : Int) == Txt.item y (p : Int)) = false)
    (k : stripPre a b = stripPre (a.drop p) (b.drop p)) : stripPre a b = (a.drop p, b.drop p) := by
  rw [item_eq hx hy h1 h2] at e
  have e := of_decide_eq_false e
  rw [hx, sL_len] at h1; rw [hy, sL_len] at h2
  rw [k, drop_getD a h1, drop_getD b h2, stripPre, if_neg e]
theorem stripPre_nil_left (b : List Nat) : stripPre [] b = ([], b) := by cases b <;> rfl
theorem stripPre_nil_right (a : List Nat) : stripPre a [] = (a, []) := by cases a <;> rfl
theorem lev_w1e (hx : x = sL a) (h1 : x.length ≤ p) (k : stripPre a b = stripPre (a.drop p) (b.drop p)) : stripPre a b = (a.drop p, b.drop p) := by
  rw [hx, sL_len] at h1
  rw [k, List.drop_eq_nil_of_le h1, stripPre_nil_left]
theorem lev_w1f (hy : y = sL b) (h1 : y.length ≤ p) (k : stripPre a b = stripPre (a.drop p) (b.drop p)) : stripPre a b = (a.drop p, b.drop p) := by
  rw [hy, sL_len] at h1
  rw [k, List.drop_eq_nil_of_le h1, stripPre_nil_right]
end
theorem idx_neg (n p : Nat) (h : p ≤ n) (h0 : p ≠ 0) : Builtin.Str.strSliceIndices none (some (-(p : Int))) 1 n = Builtin.Str.strSliceIndices none (some ((n - p : Nat) : Int)) 1 n := by
  unfold Builtin.Str.strSliceIndices
  simp only [show (1 : Int) > 0 from by decide, if_true]
  congr 1
  rw [if_pos (by (first | lia | omega)), if_neg (by (first | lia | omega))]
  (first | lia | omega)
theorem idx_all (n : Nat) : Builtin.Str.strSliceIndices none none 1 n = Builtin.Str.strSliceIndices none (some (n : Int)) 1 n := by
  unfold Builtin.Str.strSliceIndices
  simp only [show (1 : Int) > 0 from by decide, if_true]
  congr 1
  rw [if_neg (by (first | lia | omega))]
  (first | lia | omega)
theorem slice_neg (l : List Nat) (p : Nat) (h : p ≤ l.length) (h0 : p ≠ 0) : Txt.slice (sL l) none (some (-(p : Int))) = sL (l.take (l.length - p)) := by
  have e : Txt.slice (sL l) none (some (-(p : Int))) = Txt.slice (sL l) none (some ((l.length - p : Nat) : Int)) := by
    unfold Txt.slice
    have hl : (sL l).length = l.length := sL_len l
    simp only [hl, idx_neg l.length p h h0]
  rw [e, slice_to l _ (by (first | lia | omega))]
theorem slice_all (l : List Nat) : Txt.slice (sL l) none none = sL l := by
  have e : Txt.slice (sL l) none none = Txt.slice (sL l) none (some (l.length : Int)) := by
    unfold Txt.slice
    have hl : (sL l).length = l.length := sL_len l
    simp only [hl, idx_all l.length]
  rw [e, slice_to l _ (Nat.le_refl _), List.take_of_length_le (Nat.le_refl _)]
theorem item_neg (l : List Nat) (p : Nat) (h : p < l.length) : Txt.item (sL l) (-(p : Int) - 1) = sL [l.reverse.getD p 0] := by
  have hl : (sL l).length = l.length := sL_len l
  have e1 : seqIndex? (-(p : Int) - 1) (sL l).length = some (l.length - 1 - p) := by
    rw [hl]; unfold seqIndex?
    have e : (if -(p : Int) - 1 < 0 then -(p : Int) - 1 + (l.length : Int) else -(p : Int) - 1) = ((l.length - 1 - p : Nat) : Int) := by rw [if_pos (by (first | lia | omega))]; (first | lia | omega)
    simp only [e]
    rw [if_pos (by simp; (first | lia | omega)), Int.toNat_natCast]
  have h2 : l.length - 1 - p < l.length := by (first | lia | omega)
  unfold Txt.item Txt.charAt
  rw [e1]
  simp [List.getD, List.getElem?_reverse h, h2]
section
variable {w : World} {A : Around} {E : Value → Shared → Prop} {s : Shared} {v : Int} {t : Tok} {Q : Bool → Shared → Prop}
theorem tr_nz (h : v ≠ 0) (q : Q true s) : wpAny (model pw w) A (truthy (.int v t)) Q E s := PyProof.Rows.truthy_int (by rw [show (v != 0) = true from by simp [h]]; exact q)
theorem tr_z (h : v = 0) (q : Q false s) : wpAny (model pw w) A (truthy (.int v t)) Q E s := PyProof.Rows.truthy_int (by rw [show (v != 0) = false from by simp [h]]; exact q)
end
theorem neg_len {x : PySem.Str} {a : List Nat} {p : Nat} (hx : sL a = x) (h : p ≤ x.length) : (p : Int) = 0 ∨ ((Txt.slice x none (some (-(p : Int)))).length : Int) = x.length - p := by
  subst hx
  rw [sL_len] at h
  by_cases h0 : p = 0
  · left; (first | lia | omega)
  · right; rw [slice_neg a p h h0, sL_len, sL_len, List.length_take]; (first | lia | omega)
theorem all_len {x : PySem.Str} {a : List Nat} (hx : sL a = x) : (Txt.slice x none none).length = x.length := by
  subst hx; rw [slice_all]
theorem neg_eq {x y : PySem.Str} {a b : List Nat} {p : Nat} (hx : sL a = x) (hy : sL b = y) (h1 : p < x.length) (h2 : p < y.length) : (Txt.item x (-(p : Int) - 1) == Txt.item y (-(p : Int) - 1)) = decide (a.reverse.getD p 0 = b.reverse.getD p 0) := by
  subst hx; subst hy
  rw [sL_len] at h1 h2
  rw [item_neg a p h1, item_neg b p h2]
  by_cases e : a.reverse.getD p 0 = b.reverse.getD p 0
  · rw [e]; simp
  · rw [decide_eq_false e]
    apply beq_false_of_ne
    intro q
    have := sL_inj q
    exact e (by simpa using this)
theorem lev_w2 {x y : PySem.Str} {a b : List Nat} {p : Nat} (hx : sL a = x) (hy : sL b = y) (h1 : p < x.length) (h2 : p < y.length) (e : (Txt.item x (-(p : Int) - 1) == Txt.item y (-(p : Int) - 1)) = true)
    (k : stripPre a.reverse b.reverse = stripPre (a.reverse.drop p) (b.reverse.drop p)) : stripPre a.reverse b.reverse = stripPre (a.reverse.drop (p + 1)) (b.reverse.drop (p + 1)) := by
  rw [neg_eq hx hy h1 h2] at e
  have e := of_decide_eq_true e
  rw [← hx, sL_len, ← List.length_reverse] at h1; rw [← hy, sL_len, ← List.length_reverse] at h2
  rw [k, drop_getD _ h1, drop_getD _ h2, stripPre, if_pos e]
theorem lev_w2n {x y : PySem.Str} {a b : List Nat} {p : Nat} (hx : sL a = x) (hy : sL b = y) (h1 : p < x.length) (h2 : p < y.length) (e : (Txt.item x (-(p : Int) - 1) == Txt.item y (-(p : Int) - 1)) = false)
    (k : stripPre a.reverse b.reverse = stripPre (a.reverse.drop p) (b.reverse.drop p)) : stripPre a.reverse b.reverse = (a.reverse.drop p, b.reverse.drop p) := by
  rw [neg_eq hx hy h1 h2] at e
  have e := of_decide_eq_false e
  rw [← hx, sL_len, ← List.length_reverse] at h1; rw [← hy, sL_len, ← List.length_reverse] at h2
  rw [k, drop_getD _ h1, drop_getD _ h2, stripPre, if_neg e]
theorem lev_w2e {x : PySem.Str} {a b : List Nat} {p : Nat} (hx : sL a = x) (h1 : x.length ≤ p) (k : stripPre a.reverse b.reverse = stripPre (a.reverse.drop p) (b.reverse.drop p)) : stripPre a.reverse b.reverse = (a.reverse.drop p, b.reverse.drop p) := by
  rw [← hx, sL_len, ← List.length_reverse] at h1
  rw [k, List.drop_eq_nil_of_le h1, stripPre_nil_left]
theorem lev_w2f {y : PySem.Str} {a b : List Nat} {p : Nat} (hy : sL b = y) (h1 : y.length ≤ p) (k : stripPre a.reverse b.reverse = stripPre (a.reverse.drop p) (b.reverse.drop p)) : stripPre a.reverse b.reverse = (a.reverse.drop p, b.reverse.drop p) := by
  rw [← hy, sL_len, ← List.length_reverse] at h1
  rw [k, List.drop_eq_nil_of_le h1, stripPre_nil_right]
end
-- PLaw1
section
noncomputable def sI (S : Nat → Bool) (c : Nat) : Int := if S c then 1 else 0
noncomputable def phi (S : Nat → Bool) : List Nat → Int
  | [] => 0
  | c :: r => sI S c + phi S r
noncomputable def Low (c : Nat) : Prop := Txt.lower (⟨#[c]⟩ : PySem.Str) = ⟨#[c]⟩
theorem sI_01 (S : Nat → Bool) (c : Nat) : 0 ≤ sI S c ∧ sI S c ≤ 1 := by unfold sI; split <;> (first | lia | omega)
theorem phi_le (S : Nat → Bool) : ∀ l, 0 ≤ phi S l ∧ phi S l ≤ l.length
  | [] => by simp [phi]
  | c :: r => by
    have := sI_01 S c
    have := phi_le S r
    simp only [phi, List.length_cons]; (first | lia | omega)
theorem phi_app (S : Nat → Bool) : ∀ a b, phi S (a ++ b) = phi S a + phi S b
  | [], b => by simp [phi]
  | c :: r, b => by simp only [List.cons_append, phi]; rw [phi_app S r b]; (first | lia | omega)
theorem phi_rev (S : Nat → Bool) : ∀ a, phi S a.reverse = phi S a
  | [] => rfl
  | c :: r => by rw [List.reverse_cons, phi_app, phi_rev S r]; simp only [phi]; (first | lia | omega)
theorem sub_low (S : Nat → Bool) {x y : Nat} (hx : Low x) (hy : Low y) : 2 * (sI S x - sI S y) ≤ subI x y ∧ 2 * (sI S y - sI S x) ≤ subI x y := by
  unfold subI
  split
  · rename_i h
    have h := eq_of_beq h
    have : x = y := by simpa using h
    subst this; (first | lia | omega)
  · rename_i h
    split
    · rename_i h2
      have h2 := eq_of_beq h2
      rw [hx, hy] at h2
      exact absurd (beq_iff_eq.mpr h2) h
    · have := sI_01 S x; have := sI_01 S y; (first | lia | omega)
/-- each entry bounds the difference -/
noncomputable def RowOk (S : Nat → Bool) (u : Int) : Int → List Nat → List Int → Prop
  | p, c :: as, v :: vs => 2 * (u - (p + sI S c)) ≤ v ∧ 2 * ((p + sI S c) - u) ≤ v ∧ RowOk S u (p + sI S c) as vs
  | _, [], [] => True
  | _, _, _ => False
theorem cell_low (S : Nat → Bool) {bc : Nat} (hb : Low bc) {u : Int} : ∀ (as : List Nat) (row : List Int) (d r mn p : Int) (acc : List Int), (∀ c ∈ as, Low c) → RowOk S u p as row →
    2 * (u - p) ≤ d → 2 * (p - u) ≤ d → (∀ s : Int, 0 ≤ s → s ≤ 1 → 2 * ((u + sI S bc) - (p + s)) ≤ r + 2 ∧ 2 * ((p + s) - (u + sI S bc)) ≤ r + 2) →
    ∃ new, (cellS bc d r mn acc (as.zip row)).2.2 = acc ++ new ∧ RowOk S (u + sI S bc) p as new ∧
      (as ≠ [] → 2 * ((u + sI S bc) - (p + phi S as)) ≤ (cellS bc d r mn acc (as.zip row)).1 ∧ 2 * ((p + phi S as) - (u + sI S bc)) ≤ (cellS bc d r mn acc (as.zip row)).1) := by
  intro as
  induction as with
  | nil =>
    intro row d r mn p acc _ hr _ _ _
    cases row with
    | nil => exact ⟨[], by simp [cellS], trivial, fun h => absurd rfl h⟩
    | cons _ _ => exact hr.elim
  | cons c as ih =>
    intro row d r mn p acc hl hr h1 h2 h3
    cases row with
    | nil => exact hr.elim
    | cons v vs =>
      obtain ⟨hv1, hv2, hr⟩ := hr
      have hc := hl c (.head _)
      have hs := sub_low S hb hc
      have hs1 := sI_01 S c
      have hs2 := sI_01 S bc
      have h3' := h3 (sI S c) hs1.1 hs1.2
      have k1 : 2 * ((u + sI S bc) - (p + sI S c)) ≤ min (min r v + 2) (d + subI bc c) := by (first | lia | omega)
      have k2 : 2 * ((p + sI S c) - (u + sI S bc)) ≤ min (min r v + 2) (d + subI bc c) := by (first | lia | omega)
      obtain ⟨new, e, ok, last⟩ := ih vs v (min (min r v + 2) (d + subI bc c)) (if min (min r v + 2) (d + subI bc c) < mn then min (min r v + 2) (d + subI bc c) else mn) (p + sI S c)
        (acc ++ [min (min r v + 2) (d + subI bc c)]) (fun x hx => hl x (.tail _ hx)) hr (by (first | lia | omega)) (by (first | lia | omega)) (fun s hs0 hs1 => by (first | lia | omega))
      refine ⟨min (min r v + 2) (d + subI bc c) :: new, ?_, ⟨k1, k2, ok⟩, fun _ => ?_⟩
      · rw [List.zip_cons_cons, cellS, e, List.append_assoc]; rfl
      · rw [List.zip_cons_cons, cellS]
        simp only [phi]
        cases as with
        | nil =>
          cases vs with
          | nil => simp only [List.zip_nil_left, cellS, phi]; (first | lia | omega)
          | cons _ _ => exact hr.elim
        | cons c2 as2 =>
          have := last (by simp)
          rw [show p + (sI S c + phi S (c2 :: as2)) = p + sI S c + phi S (c2 :: as2) by (first | lia | omega)]
          exact this
theorem rows_low (S : Nat → Bool) {a : List Nat} (ha : ∀ c ∈ a, Low c) (hne : a ≠ []) : ∀ (bs : List Nat) (bi : Nat) (row : List Int) (res u : Int), (∀ c ∈ bs, Low c) → RowOk S u 0 a row → 0 ≤ u → u ≤ bi →
    (bs = [] → 2 * (u - phi S a) ≤ res ∧ 2 * (phi S a - u) ≤ res) →
    3 ≤ rowsS a bs bi row res ∨ (2 * (u + phi S bs - phi S a) ≤ rowsS a bs bi row res ∧ 2 * (phi S a - (u + phi S bs)) ≤ rowsS a bs bi row res) := by
  intro bs
  induction bs with
  | nil => intro bi row res u _ _ _ _ h; right; have := h rfl; simp only [rowsS, phi]; (first | lia | omega)
  | cons bc bs ih =>
    intro bi row res u hl hr h0 h1 _
    have hb := hl bc (.head _)
    have hs := sI_01 S bc
    obtain ⟨new, e, ok, last⟩ := cell_low S hb a row (2 * bi) (2 * bi) 9223372036854775807 0 [] ha hr (by (first | lia | omega)) (by (first | lia | omega)) (fun s hs0 hs1 => by (first | lia | omega))
    have last := last hne
    rw [List.nil_append] at e
    rw [rowsS]
    split
    · left; exact Int.le_refl _
    · rw [e]
      have := ih (bi + 1) new (cellS bc (2 * bi) (2 * bi) 9223372036854775807 [] (a.zip row)).1 (u + sI S bc) (fun c hc => hl c (.tail _ hc)) ok (by (first | lia | omega)) (by push_cast; (first | lia | omega)) (fun _ => by (first | lia | omega))
      simp only [phi]
      rw [show u + (sI S bc + phi S bs) = u + sI S bc + phi S bs by (first | lia | omega)]
      exact this
theorem row0_ok (S : Nat → Bool) : ∀ (a : List Nat) (p : Int) (k : Nat), 0 ≤ p → p ≤ k → RowOk S 0 p a ((List.range' k a.length).map fun (i : Nat) => 2 * ((i : Int) + 1)) := by
  intro a
  induction a with
  | nil => intro p k _ _; exact trivial
  | cons c as ih =>
    intro p k h0 h1
    have := sI_01 S c
    rw [List.length_cons, List.range'_succ, List.map_cons]
    exact ⟨by (first | lia | omega), by (first | lia | omega), ih _ _ (by (first | lia | omega)) (by push_cast; (first | lia | omega))⟩
theorem dp_low (S : Nat → Bool) {a b : List Nat} (ha : ∀ c ∈ a, Low c) (hb : ∀ c ∈ b, Low c) (hne : a ≠ []) (hnb : b ≠ []) : 3 ≤ dpS a b ∨ (2 * (phi S b - phi S a) ≤ dpS a b ∧ 2 * (phi S a - phi S b) ≤ dpS a b) := by
  unfold dpS
  split
  · left; exact Int.le_refl _
  · have := rows_low S ha hne b 0 (row0 a.length) 0 0 hb (by unfold row0; rw [List.range_eq_range']; exact row0_ok S a 0 0 (by (first | lia | omega)) (by (first | lia | omega))) (by (first | lia | omega)) (by (first | lia | omega)) (fun e => absurd e hnb)
    rw [Int.zero_add] at this
    exact this
theorem core_low (S : Nat → Bool) {a b : List Nat} (ha : ∀ c ∈ a, Low c) (hb : ∀ c ∈ b, Low c) : 3 ≤ coreS a b ∨ (2 * (phi S b - phi S a) ≤ coreS a b ∧ 2 * (phi S a - phi S b) ≤ coreS a b) := by
  unfold coreS
  split
  · have := phi_le S a; have := phi_le S b; right; (first | lia | omega)
  · rename_i h
    have h1 : a ≠ [] := fun e => h (.inl e)
    have h2 : b ≠ [] := fun e => h (.inr e)
    split
    · have := dp_low S hb ha h2 h1; (first | lia | omega)
    · exact dp_low S ha hb h1 h2
theorem strip_phi (S : Nat → Bool) : ∀ (a b : List Nat), phi S (stripPre a b).1 - phi S (stripPre a b).2 = phi S a - phi S b
  | [], b => by cases b <;> rfl
  | _ :: _, [] => rfl
  | x :: xs, y :: ys => by
    rw [stripPre]
    split
    · rename_i h; subst h; rw [strip_phi S xs ys]; simp only [phi]; (first | lia | omega)
    · rfl
theorem strip_mem {P : Nat → Prop} : ∀ (a b : List Nat), (∀ c ∈ a, P c) → (∀ c ∈ b, P c) → (∀ c ∈ (stripPre a b).1, P c) ∧ ∀ c ∈ (stripPre a b).2, P c
  | [], b, ha, hb => by cases b <;> exact ⟨ha, hb⟩
  | _ :: _, [], ha, hb => ⟨ha, hb⟩
  | x :: xs, y :: ys, ha, hb => by
    rw [stripPre]
    split
    · exact strip_mem xs ys (fun c h => ha c (.tail _ h)) fun c h => hb c (.tail _ h)
    · exact ⟨ha, hb⟩
theorem lev_low (S : Nat → Bool) {a b : List Nat} (ha : ∀ c ∈ a, Low c) (hb : ∀ c ∈ b, Low c) : 3 ≤ levS a b ∨ (2 * (phi S b - phi S a) ≤ levS a b ∧ 2 * (phi S a - phi S b) ≤ levS a b) := by
  unfold levS
  split
  · rename_i h; subst h; right; (first | lia | omega)
  · obtain ⟨h1, h2⟩ := strip_mem a b ha hb
    have e1 := strip_phi S a b
    generalize (stripPre a b).1 = a1 at *
    generalize (stripPre a b).2 = b1 at *
    unfold stripSuf
    obtain ⟨h3, h4⟩ := strip_mem a1.reverse b1.reverse (fun c h => h1 c (List.mem_reverse.mp h)) (fun c h => h2 c (List.mem_reverse.mp h))
    have e2 := strip_phi S a1.reverse b1.reverse
    rw [phi_rev, phi_rev] at e2
    have := core_low S (a := (stripPre a1.reverse b1.reverse).1.reverse) (b := (stripPre a1.reverse b1.reverse).2.reverse) (fun c h => h3 c (List.mem_reverse.mp h)) (fun c h => h4 c (List.mem_reverse.mp h))
    rw [phi_rev, phi_rev] at this
    simp only
    (first | lia | omega)
end
-- PLaw2
section
theorem strip_app : ∀ (p a b : List Nat), stripPre (p ++ a) (p ++ b) = stripPre a b
  | [], a, b => rfl
  | x :: p, a, b => by rw [List.cons_append, List.cons_append, stripPre, if_pos rfl, strip_app p a b]
theorem strip_ins : ∀ (q : List Nat) (y : Nat), ∃ a c, stripPre q (y :: q) = (a, c :: a)
  | [], y => ⟨[], y, rfl⟩
  | z :: q, y => by
    rw [stripPre]
    split
    · rename_i h; subst h; exact strip_ins q z
    · exact ⟨z :: q, y, rfl⟩
theorem strip_del : ∀ (q : List Nat) (y : Nat), ∃ a c, stripPre (y :: q) q = (c :: a, a)
  | [], y => ⟨[], y, rfl⟩
  | z :: q, y => by
    rw [stripPre]
    split
    · rename_i h; subst h; exact strip_del q y
    · exact ⟨z :: q, y, rfl⟩
theorem suf_ins (a : List Nat) (c : Nat) : stripSuf a (c :: a) = ([], [c]) := by
  unfold stripSuf
  rw [List.reverse_cons]
  have := strip_app a.reverse [] [c]
  rw [List.append_nil] at this
  rw [this]; rfl
theorem suf_del (a : List Nat) (c : Nat) : stripSuf (c :: a) a = ([c], []) := by
  unfold stripSuf
  rw [List.reverse_cons]
  have := strip_app a.reverse [c] []
  rw [List.append_nil] at this
  rw [this]; rfl
theorem lev_ins (p q : List Nat) (y : Nat) : levS (p ++ q) (p ++ y :: q) = 2 := by
  unfold levS
  rw [if_neg (fun e => by have := congrArg List.length e; simp at this), strip_app]
  obtain ⟨a, c, e⟩ := strip_ins q y
  rw [e]
  simp only
  rw [suf_ins]; simp [coreS]
theorem lev_del (p q : List Nat) (y : Nat) : levS (p ++ y :: q) (p ++ q) = 2 := by
  unfold levS
  rw [if_neg (fun e => by have := congrArg List.length e; simp at this), strip_app]
  obtain ⟨a, c, e⟩ := strip_del q y
  rw [e]
  simp only
  rw [suf_del]; simp [coreS]
theorem strip_ne {x y : Nat} (h : x ≠ y) (a b : List Nat) : stripPre (x :: a) (y :: b) = (x :: a, y :: b) := by rw [stripPre, if_neg h]
theorem sub_ne {x y : Nat} (hx : Low x) (hy : Low y) (h : x ≠ y) : subI x y = 2 := by
  unfold subI
  have e : ((⟨#[x]⟩ : PySem.Str) == ⟨#[y]⟩) = false := by
    apply beq_false_of_ne
    intro q; exact h (by simpa using q)
  rw [hx, hy, e]; rfl
theorem lev_sub (p q : List Nat) {x y : Nat} (hx : Low x) (hy : Low y) (h : x ≠ y) : levS (p ++ x :: q) (p ++ y :: q) = 2 := by
  unfold levS
  rw [if_neg (fun e => h (by have := List.append_cancel_left e; simpa using this)), strip_app, strip_ne h]
  simp only
  have e : stripSuf (x :: q) (y :: q) = ([x], [y]) := by
    unfold stripSuf
    rw [List.reverse_cons, List.reverse_cons, strip_app, strip_ne h]; rfl
  rw [e]
  have hs := sub_ne hy hx (Ne.symm h)
  simp [coreS, dpS, rowsS, cellS, row0, hs]
  decide
theorem take_drop1 (l : List Nat) {p : Nat} (h : p < l.length) : l = l.take p ++ l.getD p 0 :: l.drop (p + 1) := by
  rw [List.getD, List.getElem?_eq_getElem h, Option.getD_some, ← List.drop_eq_getElem_cons h, List.take_append_drop]
theorem slip_form (l : List Nat) (n : Nat) (h : 0 < l.length) : (n % 4 = 0 ∧ slip l n = l) ∨
    (n % 4 ≠ 0 ∧ ((∃ p y q, l = p ++ y :: q ∧ slip l n = p ++ q) ∨ (∃ p y q, 97 ≤ y ∧ y ≤ 122 ∧ l = p ++ q ∧ slip l n = p ++ y :: q) ∨ (∃ p x y q, (x = 95 ∨ 97 ≤ x ∧ x ≤ 122) ∧ x ≠ y ∧ l = p ++ y :: q ∧ slip l n = p ++ x :: q))) := by
  have hp : n / 4 % l.length < l.length := Nat.mod_lt _ h
  have hl := take_drop1 l hp
  unfold slip
  simp only
  by_cases h1 : n % 4 = 1
  · right; refine ⟨by (first | lia | omega), .inl ⟨_, _, _, hl, ?_⟩⟩; rw [if_pos h1]
  · rw [if_neg h1]
    by_cases h2 : n % 4 = 2
    · right; refine ⟨by (first | lia | omega), .inr (.inl ⟨l.take (n / 4 % l.length), 97 + n / 80 % 26, l.drop (n / 4 % l.length), by (first | lia | omega), by (first | lia | omega), (List.take_append_drop _ _).symm, ?_⟩)⟩
      rw [if_pos h2, List.append_assoc]; rfl
    · rw [if_neg h2]
      by_cases h3 : n % 4 = 3
      · right; refine ⟨by (first | lia | omega), .inr (.inr ⟨_, (if 97 + n / 80 % 26 = l.getD (n / 4 % l.length) 0 then 95 else 97 + n / 80 % 26), _, _, ?_, ?_, hl, ?_⟩)⟩
        · split
          · exact .inl rfl
          · right; (first | lia | omega)
        · split
          · rename_i e; (first | lia | omega)
          · rename_i e; exact e
        · rw [if_pos h3, List.append_assoc]; rfl
      · left; rw [if_neg h3]; exact ⟨by (first | lia | omega), rfl⟩
theorem low_letters : ∀ c, c = 95 ∨ 97 ≤ c ∧ c ≤ 122 → Low c := by
  have h : ∀ k, k < 123 → (k = 95 ∨ 97 ≤ k ∧ k ≤ 122) → Txt.lower (⟨#[k]⟩ : PySem.Str) = ⟨#[k]⟩ := by decide +kernel
  intro c hc
  exact h c (by (first | lia | omega)) hc
theorem slip_lev {l : List Nat} {n : Nat} (h : 0 < l.length) (hl : ∀ c ∈ l, Low c) : levS (slip l n) l = if n % 4 = 0 then 0 else 2 := by
  rcases slip_form l n h with ⟨h0, e⟩ | ⟨h0, ⟨p, y, q, e1, e2⟩ | ⟨p, y, q, _, _, e1, e2⟩ | ⟨p, x, y, q, hx, hxy, e1, e2⟩⟩
  · rw [if_pos h0, e]; unfold levS; rw [if_pos rfl]
  · rw [if_neg h0, e2, e1]; exact lev_ins p q y
  · rw [if_neg h0, e2, e1]; exact lev_del p q y
  · rw [if_neg h0, e2, e1]; exact lev_sub p q (low_letters x hx) (hl y (by rw [e1]; simp)) hxy
theorem slip_phi (S : Nat → Bool) {l : List Nat} {n : Nat} (h : 0 < l.length) : phi S l - 1 ≤ phi S (slip l n) ∧ phi S (slip l n) ≤ phi S l + 1 := by
  rcases slip_form l n h with ⟨h0, e⟩ | ⟨h0, ⟨p, y, q, e1, e2⟩ | ⟨p, y, q, _, _, e1, e2⟩ | ⟨p, x, y, q, hx, hxy, e1, e2⟩⟩
  · rw [e]; (first | lia | omega)
  · rw [e2, e1, phi_app, phi_app]; simp only [phi]; have := sI_01 S y; (first | lia | omega)
  · rw [e2, e1, phi_app, phi_app]; simp only [phi]; have := sI_01 S y; (first | lia | omega)
  · rw [e2, e1, phi_app, phi_app]; simp only [phi]; have := sI_01 S y; have := sI_01 S x; (first | lia | omega)
theorem slip_low {l : List Nat} {n : Nat} (h : 0 < l.length) (hl : ∀ c ∈ l, Low c) : ∀ c ∈ slip l n, Low c := by
  rcases slip_form l n h with ⟨h0, e⟩ | ⟨h0, ⟨p, y, q, e1, e2⟩ | ⟨p, y, q, _, _, e1, e2⟩ | ⟨p, x, y, q, hx, hxy, e1, e2⟩⟩
  · rw [e]; exact hl
  · rw [e2]; intro c hc; exact hl c (by rw [e1]; simp at hc ⊢; rcases hc with hc | hc <;> simp [hc])
  · rw [e2]; intro c hc; simp at hc
    rcases hc with hc | hc | hc
    · exact hl c (by rw [e1]; simp [hc])
    · subst hc; exact low_letters _ (by (first | lia | omega))
    · exact hl c (by rw [e1]; simp [hc])
  · rw [e2]; intro c hc; simp at hc
    rcases hc with hc | hc | hc
    · exact hl c (by rw [e1]; simp [hc])
    · subst hc; exact low_letters _ hx
    · exact hl c (by rw [e1]; simp [hc])
end
-- PLaw3
section
noncomputable def nms : List (List Nat) := [[111, 112, 116, 105, 109, 105, 122, 101, 100], [110, 101, 119, 108, 111, 99, 97, 108, 115], [118, 97, 114, 97, 114, 103, 115], [118, 97, 114, 107, 101, 121, 119, 111, 114, 100, 115], [110, 101, 115, 116, 101, 100], [103, 101, 110, 101, 114, 97, 116, 111, 114], [110, 111, 102, 114, 101, 101], [99, 111, 114, 111, 117, 116, 105, 110, 101], [105, 116, 101, 114, 97, 98, 108, 101, 95, 99, 111, 114, 111, 117, 116, 105, 110, 101], [97, 115, 121, 110, 99, 95, 103, 101, 110, 101, 114, 97, 116, 111, 114]]
noncomputable def nm (i : Nat) : List Nat := nms.getD i []
noncomputable def sep (i j : Nat) : Nat → Bool := fun c => decide ((nm j).count c < (nm i).count c)
theorem nm_sep : ∀ i, i < 10 → ∀ j, j < 10 → i ≠ j → 3 ≤ phi (sep i j) (nm i) - phi (sep i j) (nm j) ∨ 3 ≤ phi (sep j i) (nm j) - phi (sep j i) (nm i) := by decide +kernel
theorem nm_chars : ∀ i, i < 10 → 6 ≤ (nm i).length ∧ (nm i).length ≤ 18 ∧ ∀ c ∈ nm i, c = 95 ∨ 97 ≤ c ∧ c ≤ 122 := by decide +kernel
theorem nm_low {i : Nat} (h : i < 10) : ∀ c ∈ nm i, Low c := fun c hc => low_letters c ((nm_chars i h).2.2 c hc)
theorem nm_pos {i : Nat} (h : i < 10) : 0 < (nm i).length := by have := (nm_chars i h).1; (first | lia | omega)
theorem nm_far {i j n : Nat} (hi : i < 10) (hj : j < 10) (h : i ≠ j) : ¬ levS (slip (nm i) n) (nm j) ≤ 2 := by
  rcases nm_sep i hi j hj h with d | d
  · have h1 := slip_phi (sep i j) (n := n) (nm_pos hi)
    have h2 := lev_low (sep i j) (slip_low (n := n) (nm_pos hi) (nm_low hi)) (nm_low hj)
    (first | lia | omega)
  · have h1 := slip_phi (sep j i) (n := n) (nm_pos hi)
    have h2 := lev_low (sep j i) (slip_low (n := n) (nm_pos hi) (nm_low hi)) (nm_low hj)
    (first | lia | omega)
theorem nm_near {i n : Nat} (hi : i < 10) : levS (slip (nm i) n) (nm i) = if n % 4 = 0 then 0 else 2 := slip_lev (nm_pos hi) (nm_low hi)
end
-- PLaw4
section
noncomputable def firstsL : List Nat := [119808, 119860, 119912, 120016, 120172, 120224, 120276, 120328, 120380, 120432]
noncomputable def unseenL : List Nat := [173, 847, 6150, 6155, 6156, 6157, 8203, 8204, 8205, 8288, 65279, 65024, 65025, 65026, 65027, 65028, 65029, 65030, 65031, 65032, 65033, 65034, 65035, 65036, 65037, 65038, 65039]
noncomputable def formOf (k seed : Nat) : Nat := (seed / 12 ^ (k % 5) + k) % 12
noncomputable def signOf (k c seed : Nat) : Nat := if formOf k seed = 0 ∨ c < 97 ∨ 122 < c then c else if formOf k seed = 1 then c - 32 else firstsL.getD (formOf k seed - 2) 0 + c - 97
noncomputable def extraOf (k seed : Nat) : List Nat := if (seed + k) % 3 = 0 then [unseenL.getD ((seed / 3 + k) % 27) 0] else []
noncomputable def typedFrom : Nat → List Nat → Nat → List Nat
  | _, [], _ => []
  | k, c :: r, seed => signOf k c seed :: (extraOf k seed ++ typedFrom (k + 1) r seed)
theorem form_lt (k seed : Nat) : formOf k seed < 12 := Nat.mod_lt _ (by decide)
theorem form_eq (k seed : Nat) : (((seed : Int).fdiv (12 ^ ((k : Int).fmod 5).toNat) + (k : Int)).fmod 12) = (formOf k seed : Int) := by
  rw [show (5 : Int) = ((5 : Nat) : Int) from rfl, fmodN, Int.toNat_natCast]
  rw [show (12 : Int) ^ (k % 5) = ((12 ^ (k % 5) : Nat) : Int) by norm_cast, fdivN, ← Int.natCast_add, show (12 : Int) = ((12 : Nat) : Int) from rfl, fmodN]; rfl
theorem pow_pylong (k seed : Nat) : Builtin.divisionGoesByPylong (seed : Int) (12 ^ ((k : Int).fmod 5).toNat) = false := by
  refine PyProof.noPylong_small ?_
  rw [show (5 : Int) = ((5 : Nat) : Int) from rfl, fmodN, Int.toNat_natCast, Int.natAbs_pow]
  show 12 ^ (k % 5) < _
  have h : k % 5 < 5 := Nat.mod_lt _ (by decide)
  calc 12 ^ (k % 5) ≤ 12 ^ 5 := Nat.pow_le_pow_right (by decide) (by (first | lia | omega))
    _ < _ := by decide
theorem sign_0 {k c seed : Nat} (h : formOf k seed = 0 ∨ c < 97 ∨ 122 < c) : (⟨#[c]⟩ : PySem.Str) = sL [signOf k c seed] := by
  unfold signOf; rw [if_pos h]
theorem sign_1 {k c seed : Nat} (h1 : formOf k seed = 1) (h2 : 97 ≤ c) (h3 : c ≤ 122) : (⟨#[((c : Int) - 32).toNat]⟩ : PySem.Str) = sL [signOf k c seed] := by
  unfold signOf; rw [if_neg (by (first | lia | omega)), if_pos h1, show ((c : Int) - 32).toNat = c - 32 by (first | lia | omega)]
theorem sign_2 {k c seed : Nat} (h0 : formOf k seed ≠ 0) (h1 : formOf k seed ≠ 1) (h2 : 97 ≤ c) (h3 : c ≤ 122) : (⟨#[((firstsL.getD (formOf k seed - 2) 0 : Int) + (c : Int) - 97).toNat]⟩ : PySem.Str) = sL [signOf k c seed] := by
  unfold signOf; rw [if_neg (by (first | lia | omega)), if_neg h1]
  have : ((firstsL.getD (formOf k seed - 2) 0 : Int) + (c : Int) - 97).toNat = firstsL.getD (formOf k seed - 2) 0 + c - 97 := by (first | lia | omega)
  rw [this]
theorem unseen_ix (k seed : Nat) : ((seed : Int).fdiv 3 + (k : Int)).fmod 27 = ((((seed / 3 + k) % 27 : Nat)) : Int) := by
  rw [show (3 : Int) = ((3 : Nat) : Int) from rfl, fdivN, ← Int.natCast_add, show (27 : Int) = ((27 : Nat) : Int) from rfl, fmodN]
theorem extra_ix (k seed : Nat) : ((seed : Int) + (k : Int)).fmod 3 = (((seed + k) % 3 : Nat) : Int) := by
  rw [← Int.natCast_add, show (3 : Int) = ((3 : Nat) : Int) from rfl, fmodN]
theorem extra_1 {k seed : Nat} (h : ((seed : Int) + (k : Int)).fmod 3 = 0) : (⟨#[((unseenL.getD ((seed / 3 + k) % 27) 0 : Nat) : Int).toNat]⟩ : PySem.Str) = sL (extraOf k seed) := by
  rw [extra_ix] at h
  unfold extraOf; rw [if_pos (by (first | lia | omega)), Int.toNat_natCast]
theorem extra_0 {k seed : Nat} {S : PySem.Str} (h : ((seed : Int) + (k : Int)).fmod 3 ≠ 0) : S ++ sL (extraOf k seed) = S := by
  rw [extra_ix] at h
  unfold extraOf; rw [if_neg (by (first | lia | omega))]
  rw [← sL_cps S, sL_app, List.append_nil]
end
section
local macro_rules | `(tactic| walk_at "own n") => `(tactic| with_reducible first | exact n_prettyflags _ | exact n_le _ | exact n_eq _ | exact n_lshift _ | exact n_neg _ | exact n_or _ | exact n_concat _ | exact n_countOf _ | exact n_getitem _ | exact n_indexOf _ | exact n_setitem _ | exact n_intableb1 _ | exact n_maptableb3 _ | exact n_intablec11 _ | exact n_substitutioncost _ | exact n_levenshteindistance _ | exact n_lawslip _ | exact n_lawdrawn _ | exact n_lawtyped _ | exact n_lawheard _ | exact n_lawbysixteens _ | exact n_flagnames _ | exact n_b1set _ | exact n_b3exc _)
local macro_rules | `(tactic| walk_at "eval Name") => `(tactic| ((name_kind "globalImplicit"); with_unfolding_all refine name_K (by assumption) (by assumption) (topRead_of (by assumption)) (by walk_at "own n") ?_))
local macro_rules | `(tactic| walk_at "getMethod ref") => `(tactic| ((rename Frag.In _ _ => KX'); (rename Fr _ _ _ _ => F'); first
  | refine map_method (map15 (KX'.keeps F'.keep)) ?_
  | refine map_method (map111 (KX'.keeps F'.keep)) ?_))
local macro_rules | `(tactic| walk_at "call builtin:dict.get") => `(tactic| ((rename Frag.In _ _ => KX'); (rename Fr _ _ _ _ => F'); first
  | refine map_get2 (map15 (KX'.keeps F'.keep)) (by rfl) ?_
  | refine map_get1 (map111 (KX'.keeps F'.keep)) (by rfl) ?_))
local macro_rules | `(tactic| walk_at "compareOp In int ref") => `(tactic| ((rename Frag.In _ _ => KX'); (rename Fr _ _ _ _ => F'); refine wpAny_inSet_of (intKind_is pw _ _ _) (by rfl) (set100 (KX'.keeps F'.keep)) ?_))
local macro_rules | `(tactic| walk_at "eval Name") => `(tactic| ((with_reducible show wpAny _ _ (eval (Expr.Name _ _) (envOf _ _ _ _ _)) _ _ _); (name_kind "local"); (rename Fr _ _ _ _ => F'); (try (conv => arg 6; dsimp only)); refine ld F' (by first | assumption | with_unfolding_all assumption) ?_ (by kernel_rfl) (by kernel_rfl) (by kernel_rfl)))
local macro_rules | `(tactic| walk_at "loadName") => `(tactic| ((with_reducible show wpAny _ _ (loadName (envOf _ _ _ _ _) _) _ _ _); (rename Fr _ _ _ _ => F'); refine ldn F' (by assumption) ?_ (by kernel_rfl) (by kernel_rfl)))
local macro_rules | `(tactic| walk_at "call builtin:hasattr") => `(tactic| ((rename Fr _ _ _ _ => F'); (rename News _ _ _ _ => N'); (first | refine hasattr_str ?_ | refine hasattr_list (F'.keep _ _ (by assumption)) ?_); (intro _ _ k'); (have F1' := Fr.kp F' k'); (have N1' := News.grown N' k'); (clear k')))
local macro_rules | `(tactic| walk_at "fm") => `(tactic| ((try simp only [fdivN, fmodN, show (4 : Int) = ((4 : Nat) : Int) from rfl, show (80 : Int) = ((80 : Nat) : Int) from rfl, show (26 : Int) = ((26 : Nat) : Int) from rfl]); omega))
local macro_rules | `(tactic| walk_at "exec While") => `(tactic| refine Halt.go ?_)
local macro_rules | `(tactic| walk_at "exec For") => `(tactic| refine Halt.go ?_)
local macro_rules | `(tactic| walk_at "subscriptTail Name Slice str ref") => `(tactic| ((with_reducible rename Fr _ _ _ _ => F'); (with_reducible rename News _ _ _ _ => N'); (first
  | ((with_reducible show wpAny _ _ (subscriptTail _ (Expr.Slice none (some (Expr.BoolOp _ _ _)) none _) _ _) _ _ _); refine slice_strN_nn_len (s := ⟨_, _, _, _, _⟩) F' N' ?_; intro _ _ _ _ _ _)
  | ((with_reducible show wpAny _ _ (subscriptTail _ (Expr.Slice none (some _) none _) _ _) _ _ _); refine slice_strN_ns_len (s := ⟨_, _, _, _, _⟩) F' N' ?_; intro _ _ _ _ _ _)
  | ((with_reducible show wpAny _ _ (subscriptTail _ (Expr.Slice (some _) none none _) _ _) _ _ _); refine slice_strN_sn_len (s := ⟨_, _, _, _, _⟩) F' N' ?_; intro _ _ _ _ _ _)); (try (conv => arg 6; dsimp only)); clear F' N'))
local macro_rules | `(tactic| walk_at "exec For Name Name cons nil") => `(tactic| refine Halt.go ?_)
local macro_rules | `(tactic| walk_at "exec For Name Call cons nil") => `(tactic| refine Halt.go ?_)
local macro_rules | `(tactic| walk_at "exec For Tuple Call cons nil") => `(tactic| refine Halt.go ?_)
local macro_rules | `(tactic| walk_at "exec For Name Name cons nil") => `(tactic| refine Halt.go ?_)
local macro_rules | `(tactic| walk_at "exec For Name Name") => `(tactic| refine Halt.go ?_)
local macro_rules | `(tactic| walk_at "exec For Name Call") => `(tactic| refine Halt.go ?_)
local macro_rules | `(tactic| walk_at "exec For Tuple Call") => `(tactic| refine Halt.go ?_)
local macro_rules | `(tactic| walk_at "exec While BoolOp") => `(tactic| refine Halt.go ?_)
local macro_rules | `(tactic| walk_at "exec While Compare") => `(tactic| refine Halt.go ?_)
local macro_rules | `(tactic| walk_at "exec For Name Call cons cons") => `(tactic| refine Halt.go ?_)
local macro_rules | `(tactic| walk_at "exec For Tuple Call cons cons") => `(tactic| refine Halt.go ?_)
-- WE
section
set_option maxHeartbeats 4000000 in
theorem cats_c {w : World} {s : Shared} {A : Around} {Q : Value → Shared → Prop} {E : Value → Shared → Prop} {a b : PySem.Str} {t u : Tok} (g : GF w s.heap) (hA : A.depth ≤ 420) (hU : A.units ≤ 100) (hh : A.handled = none) (ha : a.length ≤ 10000) (hb : b.length ≤ 10000)
    (ret : ∀ t' h' tk', Kp s.heap h' → Q (.str (a ++ b) t') { s with heap := h', toks := tk' }) :
    wpAny (model pw w) A (call (.ref 64) [.str a t, .str b u]) Q E s := by
  obtain ⟨o, ho, hd, hcd⟩ := fn_at g (k_concat _) (c_concat _)
  obtain ⟨s₀, mg, mb, T, GL, KX⟩ := g.open
  conv at hd => pattern fdB 9; whnf
  conv at hd => pattern fdP 9; whnf
  conv at hd => pattern fdS 9; whnf
  refine wpAny_call (call_pos_ret (Nat.lt_of_le_of_lt hA (by decide)) ho hd GL.nolimit hcd (by rfl) (locs (by rfl)) (fun h₁ F => ?_))
  clear hd ho hcd
  dsimp only [List.map, List.zip, List.zipWith]
  have N := News.nil (h₀ := s.heap) (h := h₁) (L := s.heap.objs.size)
  w_on
  wrow_steps
  all_goals (try dsimp only)
  all_goals exact str_end ret (by assumption) rfl
set_option maxHeartbeats 4000000 in
theorem catl_c {w : World} {s : Shared} {A : Around} {Q : Value → Shared → Prop} {E : Value → Shared → Prop} {a b : Addr} {xs ys : Array Value} {n k : Nat} (g : GF w s.heap) (hA : A.depth ≤ 420) (hU : A.units ≤ 100) (hh : A.handled = none) (ha : s.heap.get? a = some { cls := .type "list", data := .seq xs n }) (hb : s.heap.get? b = some { cls := .type "list", data := .seq ys k }) (hx : xs.size ≤ 10000) (hy : ys.size ≤ 10000)
    (ret : ∀ D h' tk', Kp s.heap h' → h'.get? D = some { cls := .type "list", data := .seq (xs ++ ys) 0 } → s.heap.get? D = none → Q (.ref D) { s with heap := h', toks := tk' }) :
    wpAny (model pw w) A (call (.ref 64) [.ref a, .ref b]) Q E s := by
  obtain ⟨o, ho, hd, hcd⟩ := fn_at g (k_concat _) (c_concat _)
  obtain ⟨s₀, mg, mb, T, GL, KX⟩ := g.open
  conv at hd => pattern fdB 9; whnf
  conv at hd => pattern fdP 9; whnf
  conv at hd => pattern fdS 9; whnf
  refine wpAny_call (call_pos_ret (Nat.lt_of_le_of_lt hA (by decide)) ho hd GL.nolimit hcd (by rfl) (locs (by rfl)) (fun h₁ F => ?_))
  clear hd ho hcd
  dsimp only [List.map, List.zip, List.zipWith]
  have N := News.nil (h₀ := s.heap) (h := h₁) (L := s.heap.objs.size)
  w_on
  wrow_steps
  all_goals (try dsimp only)
  rename Fr _ _ _ _ => F'
  refine P.add_list (hsz := ?hz) (F'.keep _ _ ha) (F'.keep _ _ hb) ?_
  case hz => exact Nat.le_trans (Nat.add_le_add hx hy) (by decide)
  exact ret _ _ _ (fun b o e => Heap.get?_push_of_some _ (F'.keep b o e)) (Heap.get?_push_size _ rfl) (fresh_old F'.keep (get_size _))
set_option maxHeartbeats 4000000 in
theorem geti_c {w : World} {s : Shared} {A : Around} {Q : Value → Shared → Prop} {E : Value → Shared → Prop} {a : Addr} {b : Int} {u : Tok} {xs : Array Value} {n : Nat} {x : Value} (g : GF w s.heap) (hA : A.depth ≤ 420) (hU : A.units ≤ 100) (hh : A.handled = none) (ha : s.heap.get? a = some { cls := .type "list", data := .seq xs n }) (h0 : 0 < xs.size) (hb : b = -1) (hx : xs[xs.size - 1]? = some x)
    (ret : ∀ h' tk', Kp s.heap h' → Q x { s with heap := h', toks := tk' }) :
    wpAny (model pw w) A (call (.ref 78) [.ref a, .int b u]) Q E s := by
  obtain ⟨o, ho, hd, hcd⟩ := fn_at g (k_getitem _) (c_getitem _)
  obtain ⟨s₀, mg, mb, T, GL, KX⟩ := g.open
  conv at hd => pattern fdB 11; whnf
  conv at hd => pattern fdP 11; whnf
  conv at hd => pattern fdS 11; whnf
  refine wpAny_call (call_pos_ret (Nat.lt_of_le_of_lt hA (by decide)) ho hd GL.nolimit hcd (by rfl) (locs (by rfl)) (fun h₁ F => ?_))
  clear hd ho hcd
  dsimp only [List.map, List.zip, List.zipWith]
  have N := News.nil (h₀ := s.heap) (h := h₁) (L := s.heap.objs.size)
  w_on
  wrow_steps
  all_goals (try dsimp only)
  rename Fr _ _ _ _ => F'
  have hl := IsL.isList (F'.keep _ _ ha)
  refine subscriptTail_builtin hl.typeIs slot_list_getitem.lookup (wpAny_getItem_list_neg hl (by (first | lia | omega)) (by (first | lia | omega)) (by (first | lia | omega)) (by rw [hb, show ((-1 : Int) + (xs.size : Int)).toNat = xs.size - 1 by (first | lia | omega)]; exact hx) ?_)
  exact ret _ _ F'.keep
set_option maxHeartbeats 4000000 in
theorem seti_c {w : World} {s : Shared} {A : Around} {Q : Value → Shared → Prop} {E : Value → Shared → Prop} {a : Addr} {b : Int} {u : Tok} {v : PySem.Str} {t : Tok} {xs : Array Value} {n : Nat} (g : GF w s.heap) (hA : A.depth ≤ 420) (hU : A.units ≤ 100) (hh : A.handled = none) (ha : s.heap.get? a = some { cls := .type "list", data := .seq xs n }) (h0 : 0 < xs.size) (hb : b = -1)
    (ret : ∀ h' tk', (∀ c o, c ≠ a → s.heap.get? c = some o → h'.get? c = some o) → (∃ k, h'.get? a = some { cls := .type "list", data := .seq (xs.setIfInBounds (xs.size - 1) (.str v t)) k }) → Q .none { s with heap := h', toks := tk' }) :
    wpAny (model pw w) A (call (.ref 92) [.ref a, .int b u, .str v t]) Q E s := by
  obtain ⟨o, ho, hd, hcd⟩ := fn_at g (k_setitem _) (c_setitem _)
  obtain ⟨s₀, mg, mb, T, GL, KX⟩ := g.open
  conv at hd => pattern fdB 13; whnf
  conv at hd => pattern fdP 13; whnf
  conv at hd => pattern fdS 13; whnf
  refine wpAny_call (call_pos_ret (Nat.lt_of_le_of_lt hA (by decide)) ho hd GL.nolimit hcd (by rfl) (locs (by rfl)) (fun h₁ F => ?_))
  clear hd ho hcd
  dsimp only [List.map, List.zip, List.zipWith]
  have N := News.nil (h₀ := s.heap) (h := h₁) (L := s.heap.objs.size)
  w_on
  wrow_steps
  all_goals (try dsimp only)
  rename Fr _ _ _ _ => F'
  have hl := F'.keep _ _ ha
  refine ki_setBack hl (by (first | lia | omega)) (by (first | lia | omega)) (by (first | lia | omega)) ?_
  wrow_steps
  all_goals (try dsimp only)
  refine ret _ _ (fun c o hc e => (Heap.get?_update_other _ _ (Ne.symm hc)).trans (F'.keep c o e)) ⟨n, (Heap.get?_update_self (Obj.mapSeq fun x => x.setIfInBounds (b + (xs.size : Int)).toNat (.str v t)) hl ?_).trans ?_⟩
  · rfl
  rw [hb, show ((-1 : Int) + (xs.size : Int)).toNat = xs.size - 1 by (first | lia | omega)]; simp [Obj.mapSeq]
end
-- WM
section
noncomputable def stBody : Stmt → List Stmt
  | .For _ _ b _ _ => b
  | .While _ b _ _ => b
  | .If _ b _ _ => b
  | _ => []
section
variable {prog : Program} {w : World} {A : Around} {E : Value → Shared → Prop} {s : Shared} {h₀ : Heap} {L : Addr} {m : Str → Option Value}
theorem set_second {D : Addr} {its : Array Value} {n : Nat} {k : Int} {t : Tok} {v : Value} {p₁ : Addr × Obj} {rest : List (Addr × Obj)} {Q : Unit → Shared → Prop}
    (F : Fr h₀ L s.heap m) (N : News h₀ L s.heap (p₁ :: (D, { cls := .type "list", data := .seq its n }) :: rest)) (h1 : p₁.1 ≠ D) (hap : ∀ p ∈ rest, p.1 ≠ D) (h0 : 0 ≤ k) (hfit : k < 2 ^ 63) (hn : k < its.size)
    (h : ∀ h', Fr h₀ L h' m → News h₀ L h' (p₁ :: (D, { cls := .type "list", data := .seq (its.setIfInBounds k.toNat v) n }) :: rest) → Q () { s with heap := h' }) :
    wpAny (model prog w) A (setItem (.ref D) (.int k t) v) Q E s := by
  have hD := N _ (.tail _ (.head _))
  refine ki_setAt (n := n) hD.1 h0 hfit hn (h _ (F.change (Heap.SameBut.update ..) hD.2.1 hD.2.2) (N.setSecond h1 hap (Heap.SameBut.update ..) ?_))
  exact (Heap.get?_update_self _ hD.1 (by simp [Obj.mapSeq, Obj.isFreed])).trans (by simp [Obj.mapSeq])
theorem item_led {D : Addr} {its : Array Value} {n : Nat} {k : Int} {t : Tok} {x : Value} {Q : Value → Shared → Prop} {value slice : Expr}
    (ho : s.heap.get? D = some { cls := .type "list", data := .seq its n }) (h0 : 0 ≤ k) (hfit : k < 2 ^ 63) (hx : its[k.toNat]? = some x) (h : Q x s)
    (hs : subscripted slice false (.ref D) (.int k t) = operate [.ref D, .int k t] (getItem (.ref D) (.int k t)) := by with_unfolding_all rfl)
    (ht : ∀ r, letTemporaryGo value (.ref D) r = pure () := by intro _; with_unfolding_all rfl) :
    wpAny (model prog w) A (subscriptTail value slice (.ref D) (.int k t)) Q E s := by
  have hl := IsL.isList ho
  exact subscriptTail_builtin hl.typeIs slot_list_getitem.lookup (wpAny_getItem_list hl h0 hfit hx h) hs ht
end
noncomputable def FnThen (h : Heap) (f : Addr) (o : Obj) (P : Prop) : Prop := h.get? f = some o ∧ P
theorem GF.has {w : World} {h : Heap} (g : GF w h) {f : Addr} {o : Obj} (e : (kF w.params).lookup f = some o) : h.get? f = some o := let ⟨_, _, _, _, X⟩ := g; X _ _ e
theorem FnThen.mk {w : World} {h : Heap} {f : Addr} {o : Obj} {P : Prop} (g : GF w h) (e : (kF w.params).lookup f = some o) (p : P) : FnThen h f o P := ⟨g.has e, p⟩
theorem callWith_K {w : World} {A : Around} {E : Value → Shared → Prop} {s : Shared} {env : Env} {pos : Pos} {f : Addr} {o : Obj} {fd : FuncData} {x : Expr} {rest : List Expr} {Q : Value → Shared → Prop} (e : (kF w.params).lookup f = some o) (hdat : o.data = .func fd)
    (h : wpAny (model pw w) A (spliced (backTo pos (starEach (x :: rest) env))) (fun vs s₁ => FnThen s₁.heap f o (wpAny (model pw w) A (call (.ref f) vs) Q E s₁)) E s)
    (he : starEach (x :: rest) env = (false, eval x env) :: starEach rest env) :
    wpAny (model pw w) A (callWith pos (.ref f) [] (backTo pos (starEach (x :: rest) env)) []) Q E s := callWith_def hdat h he
theorem ints_at : ∀ {l : List Value} {ns : List Int} (h : IntsAre l ns) {i : Nat} {x : Int}, ns[i]? = some x → ∃ t, l[i]? = some (.int x t) := by
  intro l ns h
  induction h with
  | nil => intro i x e; cases e
  | cons y t _ ih =>
    intro i x e
    cases i with
    | zero => exact ⟨t, by simp at e; subst e; rfl⟩
    | succ i => exact ih (by simpa using e)
theorem ints_set : ∀ {l : List Value} {ns : List Int} (h : IntsAre l ns) (i : Nat) (x : Int) (t : Tok), IntsAre (l.set i (.int x t)) (ns.set i x) := by
  intro l ns h
  induction h with
  | nil => intro i x t; exact .nil
  | cons y t _ ih =>
    intro i x t'
    cases i with
    | zero => exact .cons _ _ (by assumption)
    | succ i => exact .cons _ _ (ih i x t')
theorem ints_len {l : List Value} {ns : List Int} (h : IntsAre l ns) : l.length = ns.length := by
  induction h with
  | nil => rfl
  | cons y t _ ih => simp [ih]
end
-- PLev3
section
noncomputable def iRes (r d sub : Int) : Int := min (min r d + 2) sub
theorem min_if (a b : Int) : (if b < a then b else a) = min a b := by
  by_cases h : b < a
  · rw [if_pos h]; (first | lia | omega)
  · rw [if_neg h]; (first | lia | omega)
theorem zip_drop (a : List Nat) (row : List Int) {i : Nat} {rv : Int} (h : i < a.length) (hr : row[i]? = some rv) : (a.zip row).drop i = (a.getD i 0, rv) :: (a.zip row).drop (i + 1) := by
  have h2 : i < row.length := by
    rcases Nat.lt_or_ge i row.length with q | q
    · exact q
    · rw [List.getElem?_eq_none q] at hr; cases hr
  have h3 : i < (a.zip row).length := by simp [List.length_zip]; (first | lia | omega)
  rw [List.drop_eq_getElem_cons h3]
  congr 1
  rw [List.getElem_zip]
  rw [List.getElem?_eq_getElem h2] at hr
  simp [List.getD, List.getElem?_eq_getElem h, Option.some.inj hr]
theorem acc_get {acc row : List Int} {i : Nat} (h : acc.length = i) (hi : i < row.length) : (acc ++ row.drop i)[i]? = row[i]? := by
  rw [List.getElem?_append_right (by (first | lia | omega)), h, Nat.sub_self, List.getElem?_drop]; rfl
theorem acc_set {acc row : List Int} {i : Nat} (h : acc.length = i) (hi : i < row.length) (x : Int) : (acc ++ row.drop i).set i x = (acc ++ [x]) ++ row.drop (i + 1) := by
  have e : (row.drop i).set 0 x = x :: row.drop (i + 1) := by rw [List.drop_eq_getElem_cons hi]; rfl
  rw [List.set_append_right _ _ (by (first | lia | omega)), h, Nat.sub_self, e]; simp
open PySem
theorem rsize (n : Nat) : Builtin.Range.rangeSize 0 (n : Int) 1 = (n : Int) := by rw [PyProof.Rows.rangeSize_nat]; (first | lia | omega)
theorem rsmall {n : Nat} (h : n ≤ 1000) : Builtin.Range.small 0 (n : Int) 1 = true := by
  have : ∀ k, k ≤ 1000 → Builtin.Range.small 0 ((k : Nat) : Int) 1 = true := by
    intro k hk
    unfold Builtin.Range.small Builtin.Range.rangeFitsLong
    rw [rsize]
    simp
    (first | lia | omega)
  exact this n h
theorem cell_sub {x : PySem.Str} {a : List Nat} {bc i : Nat} (hx : sL a = x) (hi : i < x.length) : (if ((⟨#[bc]⟩ : PySem.Str) == Txt.item x (i : Int)) = true then (0 : Int) else if (Txt.lower (⟨#[bc]⟩ : PySem.Str) == Txt.lower (Txt.item x (i : Int))) = true then 1 else 2) = subI bc (a.getD i 0) := by
  subst hx
  rw [sL_len] at hi
  rw [item_sL a i hi]; rfl
theorem cell_ints {vs : Array Value} {acc row : List Int} {i : Nat} (h : IntsAre vs.toList (acc ++ row.drop i)) (ha : acc.length = i) (hi : i < row.length) (V : Int) (t : Tok) : IntsAre (vs.setIfInBounds ((i : Int)).toNat (.int V t)).toList ((acc ++ [V]) ++ row.drop (i + 1)) := by
  rw [Array.toList_setIfInBounds, Int.toNat_natCast, ← acc_set ha hi V]
  exact ints_set h i V t
theorem cell_step {a : List Nat} {row acc : List Int} {bc i : Nat} {d r mn rv : Int} {R : Int × Int × List Int} (h : i < a.length) (hr : row[i]? = some rv) (hc : cellS bc d r mn acc ((a.zip row).drop i) = R) :
    cellS bc rv (min (min r rv + 2) (d + subI bc (a.getD i 0))) (if min (min r rv + 2) (d + subI bc (a.getD i 0)) < mn then min (min r rv + 2) (d + subI bc (a.getD i 0)) else mn) (acc ++ [min (min r rv + 2) (d + subI bc (a.getD i 0))]) ((a.zip row).drop (i + 1)) = R := by
  rw [← hc, zip_drop a row h hr]; rfl
theorem cell_step1 {a : List Nat} {row acc : List Int} {bc i : Nat} {d r mn rv : Int} {R : Int × Int × List Int} (h : i < a.length) (hr : row[i]? = some rv) (hc : cellS bc d r mn acc ((a.zip row).drop i) = R) (hlt : min (min r rv + 2) (d + subI bc (a.getD i 0)) < mn) :
    cellS bc rv (min (min r rv + 2) (d + subI bc (a.getD i 0))) (min (min r rv + 2) (d + subI bc (a.getD i 0))) (acc ++ [min (min r rv + 2) (d + subI bc (a.getD i 0))]) ((a.zip row).drop (i + 1)) = R := by
  have := cell_step h hr hc; rwa [if_pos hlt] at this
theorem cell_step2 {a : List Nat} {row acc : List Int} {bc i : Nat} {d r mn rv : Int} {R : Int × Int × List Int} (h : i < a.length) (hr : row[i]? = some rv) (hc : cellS bc d r mn acc ((a.zip row).drop i) = R) (hlt : ¬ min (min r rv + 2) (d + subI bc (a.getD i 0)) < mn) :
    cellS bc rv (min (min r rv + 2) (d + subI bc (a.getD i 0))) mn (acc ++ [min (min r rv + 2) (d + subI bc (a.getD i 0))]) ((a.zip row).drop (i + 1)) = R := by
  have := cell_step h hr hc; rwa [if_neg hlt] at this
end
-- WF2
section
local macro_rules | `(tactic| walk_at "truthy int") => `(tactic| first | refine tr_nz (by omega) ?_ | refine tr_z (by omega) ?_)
set_option maxHeartbeats 4000000 in
theorem lev_while2 {w : World} {s s₀ : Shared} {A : Around} {Q : Flow → Shared → Prop} {h₀ : Heap} {L : Addr} {mg mb m : PySem.Str → Option Value} {x y : PySem.Str} {a b : List Nat} {ta tb tc tp : Tok} (T : Top qv (looseW qv looseX) (ExcName.means s₀.heap) mg mb h₀) (GL : GLt mg mb h₀) (KX : (kF w.params).In h₀)
    (F : Fr h₀ L s.heap m) (N : News h₀ L s.heap []) (hA : A.depth ≤ 420) (hU : A.units ≤ 100) (hh : A.handled = none) (hx : sL a = x) (hy : sL b = y) (hz1 : x.length ≤ 25) (hz2 : y.length ≤ 25) (ma : m (PySem.Str.ofString "a") = some (.str x ta)) (mb : m (PySem.Str.ofString "b") = some (.str y tb)) (mc : m (PySem.Str.ofString "max_cost") = some (.int 2 tc)) (mp : m (PySem.Str.ofString "post") = some (.int 0 tp))
    (rest : ∀ h tk m (p : Nat) (ta tb tc tp : Tok), Fr h₀ L h m → News h₀ L h [] → p ≤ x.length → p ≤ y.length → m (PySem.Str.ofString "a") = some (.str x ta) → m (PySem.Str.ofString "b") = some (.str y tb) → m (PySem.Str.ofString "max_cost") = some (.int 2 tc) → m (PySem.Str.ofString "post") = some (.int (-(p : Int)) tp) → stripPre a.reverse b.reverse = (a.reverse.drop p, b.reverse.drop p) → Q .next { s with heap := h, toks := tk }) :
    wpAny (model pw w) (A.deeper (envOf (PySem.Str.ofString "_levenshtein_distance") (fdS 25) L 177 (Value.ref 176))) (exec ((fdB 25).getD 6 dStmt) (envOf (PySem.Str.ofString "_levenshtein_distance") (fdS 25) L 177 (Value.ref 176))) Q (fun _ _ => False) s := by
  conv => pattern List.getD (fdB 25) _ _; whnf
  conv => pattern (occs := *) fdS 25; all_goals whnf
  w_on
  with_unfolding_all refine While_cut (n₀ := x.length) (fun n m news => news = [] ∧ ∃ p : Nat, n = x.length - p ∧ p ≤ x.length ∧ p ≤ y.length ∧ (∃ tt, m (PySem.Str.ofString "a") = some (.str x tt)) ∧ (∃ tt, m (PySem.Str.ofString "b") = some (.str y tt)) ∧ (∃ tt, m (PySem.Str.ofString "max_cost") = some (.int 2 tt)) ∧ (∃ tt, m (PySem.Str.ofString "post") = some (.int (-(p : Int)) tt)) ∧ stripPre a.reverse b.reverse = stripPre (a.reverse.drop p) (b.reverse.drop p)) (fun m news => news = [] ∧ ∃ p : Nat, p ≤ x.length ∧ p ≤ y.length ∧ (∃ tt, m (PySem.Str.ofString "a") = some (.str x tt)) ∧ (∃ tt, m (PySem.Str.ofString "b") = some (.str y tt)) ∧ (∃ tt, m (PySem.Str.ofString "max_cost") = some (.int 2 tt)) ∧ (∃ tt, m (PySem.Str.ofString "post") = some (.int (-(p : Int)) tt)) ∧ stripPre a.reverse b.reverse = (a.reverse.drop p, b.reverse.drop p)) F N ⟨rfl, 0, rfl, Nat.zero_le _, Nat.zero_le _, ⟨_, ma⟩, ⟨_, mb⟩, ⟨_, mc⟩, ⟨_, mp⟩, rfl⟩ ?_ ?_
  · clear F N ma mb mc mp rest
    rintro n m₁ news₁ h₁ tk₁ F₁ N₁ ⟨rfl, p, rfl, hp1, hp2, ⟨_, ma⟩, ⟨_, mb⟩, ⟨_, mc⟩, ⟨tp, mp⟩, htk2⟩
    have g1 := neg_len hx hp1
    have g2 := neg_len hy hp2
    have g3 := all_len hx
    have g4 := all_len hy
    rcases Nat.eq_zero_or_pos p with hp0 | hp0 <;> wrow_steps
    all_goals rename Fr _ _ _ _ => Fe
    all_goals rename News _ _ _ _ => Ne
    all_goals first
      | exact WhileStep.intro Fe Ne (show x.length - (p + 1) < x.length - p by (first | lia | omega)) ⟨rfl, p + 1, rfl, by (first | lia | omega), by (first | lia | omega), ⟨_, ma⟩, ⟨_, mb⟩, ⟨_, mc⟩, ⟨_, by rw [show (-((p + 1 : Nat) : Int)) = -(p : Int) - 1 by (first | lia | omega)]; rfl⟩, lev_w2 hx hy (by (first | lia | omega)) (by (first | lia | omega)) (by assumption) htk2⟩
      | exact CutEnd.intro Fe Ne ⟨rfl, p, hp1, hp2, ⟨_, ma⟩, ⟨_, mb⟩, ⟨_, mc⟩, ⟨_, mp⟩, lev_w2n hx hy (by (first | lia | omega)) (by (first | lia | omega)) (by assumption) htk2⟩
      | exact CutEnd.intro Fe Ne ⟨rfl, p, hp1, hp2, ⟨_, ma⟩, ⟨_, mb⟩, ⟨_, mc⟩, ⟨_, mp⟩, lev_w2f hy (by (first | lia | omega)) htk2⟩
      | exact CutEnd.intro Fe Ne ⟨rfl, p, hp1, hp2, ⟨_, ma⟩, ⟨_, mb⟩, ⟨_, mc⟩, ⟨_, mp⟩, lev_w2e hx (by (first | lia | omega)) htk2⟩
      | trace_state
  · rintro h tk m' news F' N' ⟨rfl, p, hp1, hp2, ⟨_, ma⟩, ⟨_, mb⟩, ⟨_, mc⟩, ⟨tp, mp⟩, hs⟩
    exact rest _ _ _ _ _ _ _ _ F' N' hp1 hp2 ma mb mc mp hs
set_option maxHeartbeats 4000000 in
theorem lev_while1 {w : World} {s s₀ : Shared} {A : Around} {Q : Flow → Shared → Prop} {h₀ : Heap} {L : Addr} {mg mb m : PySem.Str → Option Value} {x y : PySem.Str} {a b : List Nat} {ta tb tc tp : Tok} (T : Top qv (looseW qv looseX) (ExcName.means s₀.heap) mg mb h₀) (GL : GLt mg mb h₀) (KX : (kF w.params).In h₀)
    (F : Fr h₀ L s.heap m) (N : News h₀ L s.heap []) (hA : A.depth ≤ 420) (hU : A.units ≤ 100) (hh : A.handled = none) (hx : x = sL a) (hy : y = sL b) (hz1 : x.length ≤ 25) (hz2 : y.length ≤ 25) (ma : m (PySem.Str.ofString "a") = some (.str x ta)) (mb : m (PySem.Str.ofString "b") = some (.str y tb)) (mc : m (PySem.Str.ofString "max_cost") = some (.int 2 tc)) (mp : m (PySem.Str.ofString "pre") = some (.int 0 tp))
    (rest : ∀ h tk m (p : Nat) (ta tb tc tp : Tok), Fr h₀ L h m → News h₀ L h [] → p ≤ x.length → p ≤ y.length → m (PySem.Str.ofString "a") = some (.str x ta) → m (PySem.Str.ofString "b") = some (.str y tb) → m (PySem.Str.ofString "max_cost") = some (.int 2 tc) → m (PySem.Str.ofString "pre") = some (.int (p : Int) tp) → stripPre a b = (a.drop p, b.drop p) → Q .next { s with heap := h, toks := tk }) :
    wpAny (model pw w) (A.deeper (envOf (PySem.Str.ofString "_levenshtein_distance") (fdS 25) L 177 (Value.ref 176))) (exec ((fdB 25).getD 2 dStmt) (envOf (PySem.Str.ofString "_levenshtein_distance") (fdS 25) L 177 (Value.ref 176))) Q (fun _ _ => False) s := by
  conv => pattern List.getD (fdB 25) _ _; whnf
  conv => pattern (occs := *) fdS 25; all_goals whnf
  w_on
  with_unfolding_all refine While_cut (n₀ := x.length) (fun n m news => news = [] ∧ ∃ p : Nat, n = x.length - p ∧ p ≤ x.length ∧ p ≤ y.length ∧ (∃ tt, m (PySem.Str.ofString "a") = some (.str x tt)) ∧ (∃ tt, m (PySem.Str.ofString "b") = some (.str y tt)) ∧ (∃ tt, m (PySem.Str.ofString "max_cost") = some (.int 2 tt)) ∧ (∃ tt, m (PySem.Str.ofString "pre") = some (.int (p : Int) tt)) ∧ stripPre a b = stripPre (a.drop p) (b.drop p)) (fun m news => news = [] ∧ ∃ p : Nat, p ≤ x.length ∧ p ≤ y.length ∧ (∃ tt, m (PySem.Str.ofString "a") = some (.str x tt)) ∧ (∃ tt, m (PySem.Str.ofString "b") = some (.str y tt)) ∧ (∃ tt, m (PySem.Str.ofString "max_cost") = some (.int 2 tt)) ∧ (∃ tt, m (PySem.Str.ofString "pre") = some (.int (p : Int) tt)) ∧ stripPre a b = (a.drop p, b.drop p)) F N ⟨rfl, 0, rfl, Nat.zero_le _, Nat.zero_le _, ⟨_, ma⟩, ⟨_, mb⟩, ⟨_, mc⟩, ⟨_, mp⟩, rfl⟩ ?_ ?_
  · clear F N ma mb mc mp rest
    rintro n m₁ news₁ h₁ tk₁ F₁ N₁ ⟨rfl, p, rfl, hp1, hp2, ⟨_, ma⟩, ⟨_, mb⟩, ⟨_, mc⟩, ⟨tp, mp⟩, htk2⟩
    wrow_steps
    all_goals rename Fr _ _ _ _ => Fe
    all_goals rename News _ _ _ _ => Ne
    all_goals first
      | exact WhileStep.intro Fe Ne (show x.length - (p + 1) < x.length - p by (first | lia | omega)) ⟨rfl, p + 1, rfl, by (first | lia | omega), by (first | lia | omega), ⟨_, ma⟩, ⟨_, mb⟩, ⟨_, mc⟩, ⟨_, rfl⟩, lev_w1 hx hy (by (first | lia | omega)) (by (first | lia | omega)) (by assumption) htk2⟩
      | exact CutEnd.intro Fe Ne ⟨rfl, p, hp1, hp2, ⟨_, ma⟩, ⟨_, mb⟩, ⟨_, mc⟩, ⟨_, mp⟩, lev_w1n hx hy (by (first | lia | omega)) (by (first | lia | omega)) (by assumption) htk2⟩
      | exact CutEnd.intro Fe Ne ⟨rfl, p, hp1, hp2, ⟨_, ma⟩, ⟨_, mb⟩, ⟨_, mc⟩, ⟨_, mp⟩, lev_w1f hy (by (first | lia | omega)) htk2⟩
      | exact CutEnd.intro Fe Ne ⟨rfl, p, hp1, hp2, ⟨_, ma⟩, ⟨_, mb⟩, ⟨_, mc⟩, ⟨_, mp⟩, lev_w1e hx (by (first | lia | omega)) htk2⟩
      | trace_state
  · rintro h tk m' news F' N' ⟨rfl, p, hp1, hp2, ⟨_, ma⟩, ⟨_, mb⟩, ⟨_, mc⟩, ⟨tp, mp⟩, hs⟩
    exact rest _ _ _ _ _ _ _ _ F' N' hp1 hp2 ma mb mc mp hs
end
section
local macro_rules | `(tactic| walk_at "own aft") => `(tactic| ((rename Kp _ _ => k'); (rename Fr _ _ _ _ => F'); (rename News _ _ _ _ => N'); (have F1' := Fr.kp F' k'); (have N1' := News.grown N' k'); (clear k' F' N'); (try (conv => arg 6; dsimp only))))
local macro_rules | `(tactic| walk_at "own mem") => `(tactic| repeat (first | assumption | exact List.Mem.head _ | apply List.Mem.tail))
local macro_rules | `(tactic| walk_at "own k") => `(tactic| with_reducible first | exact k_prettyflags _ | exact k_le _ | exact k_eq _ | exact k_lshift _ | exact k_neg _ | exact k_or _ | exact k_concat _ | exact k_countOf _ | exact k_getitem _ | exact k_indexOf _ | exact k_setitem _ | exact k_intableb1 _ | exact k_maptableb3 _ | exact k_intablec11 _ | exact k_substitutioncost _ | exact k_levenshteindistance _ | exact k_lawslip _ | exact k_lawdrawn _ | exact k_lawtyped _ | exact k_lawheard _ | exact k_lawbysixteens _)
local macro_rules | `(tactic| walk_at "callWith ref") => `(tactic| (with_unfolding_all refine callWith_K (by walk_at "own k") (by rfl) ?_ (by rfl)))
local macro_rules | `(tactic| walk_at "FnThen") => `(tactic| ((rename Fr _ _ _ _ => F'); (rename GF _ _ => g'); (with_unfolding_all refine FnThen.mk (g'.keeps F'.keep) (by walk_at "own k") ?_)))
-- WF3
section
set_option maxHeartbeats 4000000 in
theorem lev_inner {w : World} {s s₀ : Shared} {A : Around} {Q : Flow → Shared → Prop} {h₀ : Heap} {L : Addr} {mg mb m : PySem.Str → Option Value} {x : PySem.Str} {a : List Nat} {row : List Int} {bc : Nat} {d0 r0 mn0 : Int} {R : Addr} {extra : List (Addr × Obj)} {vs : Array Value} {c : Nat} {ta tb td tr tm : Tok} (T : Top qv (looseW qv looseX) (ExcName.means s₀.heap) mg mb h₀) (GL : GLt mg mb h₀) (KX : (kF w.params).In h₀) (g : GF w h₀)
    (F : Fr h₀ L s.heap m) (N : News h₀ L s.heap ((R, { cls := .type "list", data := .seq vs c }) :: extra)) (hA : A.depth ≤ 410) (hU : A.units ≤ 90) (hh : A.handled = none) (hx : sL a = x) (hz : x.length ≤ 25) (hrow : row.length = x.length) (hv : IntsAre vs.toList row) (hR : ∀ p ∈ extra, p.1 ≠ R) (ma : m (PySem.Str.ofString "a") = some (.str x ta)) (mbchar : m (PySem.Str.ofString "bchar") = some (.str ⟨#[bc]⟩ tb)) (mrow : m (PySem.Str.ofString "row") = some (.ref R)) (md : m (PySem.Str.ofString "distance") = some (.int d0 td)) (mr : m (PySem.Str.ofString "result") = some (.int r0 tr)) (mm : m (PySem.Str.ofString "minimum") = some (.int mn0 tm))
    (rest : ∀ h tk m' vs c r mn acc tr tm, Fr h₀ L h m' → News h₀ L h ((R, { cls := .type "list", data := .seq vs c }) :: extra) → IntsAre vs.toList acc → cellS bc d0 r0 mn0 [] (a.zip row) = (r, mn, acc) → m' (PySem.Str.ofString "result") = some (.int r tr) → m' (PySem.Str.ofString "minimum") = some (.int mn tm) → (∀ q, (∀ k ∈ ["substitute", "distance", "insert_delete", "result", "minimum", "index"], q ≠ PySem.Str.ofString k) → m' q = m q) → Q .next { s with heap := h, toks := tk }) :
    wpAny (model pw w) (A.deeper (envOf (PySem.Str.ofString "_levenshtein_distance") (fdS 25) L 177 (Value.ref 176))) (exec ((stBody ((fdB 25).getD 15 dStmt)).getD 3 dStmt) (envOf (PySem.Str.ofString "_levenshtein_distance") (fdS 25) L 177 (Value.ref 176))) Q (fun _ _ => False) s := by
  conv => pattern List.getD (stBody ((fdB 25).getD 15 dStmt)) _ _; whnf
  conv => pattern (occs := *) fdS 25; all_goals whnf
  w_on
  with_unfolding_all refine For_at F (by rfl) (by rfl) ?_
  repeat' (first | wrow_close | ((rename Fr _ _ _ _ => Fz'); (rename News _ _ _ _ => Nz'); (rename GF _ _ => gz'); (first | ((with_reducible show wpAny _ _ (call (.ref 170) _) _ _ _); with_unfolding_all refine sub_c (gz'.keeps Fz'.keep) (dn (by assumption)) (un (by assumption)) (by assumption) (by (first | lia | omega)) (by (first | lia | omega)) ?_)); (intro _ _ _ kz'); (have F1z' := Fr.kp Fz' kz'); (have N1z' := News.grown Nz' kz'); (clear kz' Fz' Nz')) | ((with_reducible show wpAny _ _ (setItem (Value.ref _) (Value.int _ _) _) _ _ _); first | with_reducible (((rename Fr _ _ _ _ => Fz'); (rename News _ _ _ _ => Nz'); (with_unfolding_all refine set_second Fz' Nz' ?h1 ?h2 (by (first | lia | omega)) (by (first | lia | omega)) ?h3 ?_); (case h1 => assumption); (case h2 => assumption); (case h3 => (first | lia | omega)); (clear Fz' Nz'); intro _ _ _)) | (((rename Fr _ _ _ _ => Fz'); (rename News _ _ _ _ => Nz'); (with_unfolding_all refine set_second Fz' Nz' ?h1 ?h2 (by (first | lia | omega)) (by (first | lia | omega)) ?h3 ?_); (case h1 => assumption); (case h2 => assumption); (case h3 => (first | lia | omega)); (clear Fz' Nz'); intro _ _ _))) | ((with_reducible show wpAny _ _ (subscriptTail (Expr.Name _ _) (Expr.Name _ _) (Value.ref _) (Value.int _ _)) _ _ _); first | with_reducible (((rename News _ _ _ _ => Nz'); first | (with_unfolding_all refine item_led (News.get Nz' (.tail _ (.head _))) (by (first | lia | omega)) (by (first | lia | omega)) (by assumption) ?_) | (with_unfolding_all refine item_led (News.get Nz' (.head _)) (by (first | lia | omega)) (by (first | lia | omega)) (by assumption) ?_))) | (((rename News _ _ _ _ => Nz'); first | (with_unfolding_all refine item_led (News.get Nz' (.tail _ (.head _))) (by (first | lia | omega)) (by (first | lia | omega)) (by assumption) ?_) | (with_unfolding_all refine item_led (News.get Nz' (.head _)) (by (first | lia | omega)) (by (first | lia | omega)) (by assumption) ?_)))) | ((with_reducible show wpAny _ _ (call (Value.builtin "min") _) _ _ _); first | with_reducible (((with_reducible show wpAny _ _ (call (Value.builtin _) [Value.int _ _, Value.int _ _]) _ _ _); (rename Fr _ _ _ _ => Fz'); (rename News _ _ _ _ => Nz'); (rename _ = none => hh'); (with_unfolding_all refine min_two_N hh' Fz' Nz' ?_); (clear Fz' Nz'); intros)) | (((with_reducible show wpAny _ _ (call (Value.builtin _) [Value.int _ _, Value.int _ _]) _ _ _); (rename Fr _ _ _ _ => Fz'); (rename News _ _ _ _ => Nz'); (rename _ = none => hh'); (with_unfolding_all refine min_two_N hh' Fz' Nz' ?_); (clear Fz' Nz'); intros))) | walk1 | (dsimp only; walk1) | (leave1; walk_say "STEP leave1"; try dsimp only at *) | fail "no step")
  dsimp only
  rename Fr _ _ _ _ => F2
  rename News _ _ _ _ => N2
  refine ForAt.range (n := x.length) (J := (fun i M news => ∃ (d r mn : Int) (acc : List Int) (vs : Array Value) (c : Nat), news = (R, { cls := .type "list", data := .seq vs c }) :: extra ∧ IntsAre vs.toList (acc ++ row.drop i) ∧ acc.length = i ∧ M (PySem.Str.ofString "a") = some (.str x ta) ∧ M (PySem.Str.ofString "bchar") = some (.str ⟨#[bc]⟩ tb) ∧ M (PySem.Str.ofString "row") = some (.ref R) ∧ (∃ tt, M (PySem.Str.ofString "distance") = some (.int d tt)) ∧ (∃ tt, M (PySem.Str.ofString "result") = some (.int r tt)) ∧ (∃ tt, M (PySem.Str.ofString "minimum") = some (.int mn tt)) ∧ (∀ q, (∀ k ∈ ["substitute", "distance", "insert_delete", "result", "minimum", "index"], q ≠ PySem.Str.ofString k) → M q = m q) ∧ cellS bc d r mn acc ((a.zip row).drop i) = cellS bc d0 r0 mn0 [] (a.zip row))) hh (by assumption) (rsmall (by (first | lia | omega))) (rsize _) F2 N2 ⟨d0, r0, mn0, [], vs, c, rfl, by simpa using hv, rfl, ma, mbchar, mrow, ⟨_, md⟩, ⟨_, mr⟩, ⟨_, mm⟩, fun _ _ => rfl, by simp⟩ ?_ ?_
  · clear F2 N2 rest
    rintro i t m₁ news₁ h tk I o hi ⟨d, r, mn, acc, vs', c', rfl, hv', hacc, ma', mb', mrow', ⟨_, md'⟩, ⟨_, mr'⟩, ⟨_, mm'⟩, hq, hc⟩ hoff F₁ N₁
    rw [show (0:Int) + (i:Int)*1 = (i:Int) by (first | lia | omega)] at F₁
    have hIR : I ≠ R := fun e => hoff _ (.head _) e.symm
    obtain ⟨rv, hrv⟩ : ∃ rv, row[i]? = some rv := ⟨_, List.getElem?_eq_getElem (by (first | lia | omega))⟩
    obtain ⟨tv, hget⟩ := ints_at hv' ((acc_get hacc (by (first | lia | omega))).trans hrv)
    have hget : vs'[((i:Int)).toNat]? = some (.int rv tv) := by simpa using hget
    have hsz : vs'.size = x.length := by have := ints_len hv'; simp at this; (first | lia | omega)
    have hb1 : (⟨#[bc]⟩ : PySem.Str).length = 1 := rfl
    have hS := cell_sub (bc := bc) hx hi
    have hia : i < a.length := by rw [← sL_len, hx]; exact hi
    have hoffR : ∀ p ∈ (R, ({ cls := .type "list", data := .seq vs' c' } : Obj)) :: extra, p.1 ≠ I := hoff
    clear hv hoff ma mbchar mrow md mr mm
    repeat' (first | wrow_close | ((rename Fr _ _ _ _ => Fz'); (rename News _ _ _ _ => Nz'); (rename GF _ _ => gz'); (first | ((with_reducible show wpAny _ _ (call (.ref 170) _) _ _ _); with_unfolding_all refine sub_c (gz'.keeps Fz'.keep) (dn (by assumption)) (un (by assumption)) (by assumption) (by (first | lia | omega)) (by (first | lia | omega)) ?_)); (intro _ _ _ kz'); (have F1z' := Fr.kp Fz' kz'); (have N1z' := News.grown Nz' kz'); (clear kz' Fz' Nz')) | ((with_reducible show wpAny _ _ (setItem (Value.ref _) (Value.int _ _) _) _ _ _); first | with_reducible (((rename Fr _ _ _ _ => Fz'); (rename News _ _ _ _ => Nz'); (with_unfolding_all refine set_second Fz' Nz' ?h1 ?h2 (by (first | lia | omega)) (by (first | lia | omega)) ?h3 ?_); (case h1 => assumption); (case h2 => assumption); (case h3 => (first | lia | omega)); (clear Fz' Nz'); intro _ _ _)) | (((rename Fr _ _ _ _ => Fz'); (rename News _ _ _ _ => Nz'); (with_unfolding_all refine set_second Fz' Nz' ?h1 ?h2 (by (first | lia | omega)) (by (first | lia | omega)) ?h3 ?_); (case h1 => assumption); (case h2 => assumption); (case h3 => (first | lia | omega)); (clear Fz' Nz'); intro _ _ _))) | ((with_reducible show wpAny _ _ (subscriptTail (Expr.Name _ _) (Expr.Name _ _) (Value.ref _) (Value.int _ _)) _ _ _); first | with_reducible (((rename News _ _ _ _ => Nz'); first | (with_unfolding_all refine item_led (News.get Nz' (.tail _ (.head _))) (by (first | lia | omega)) (by (first | lia | omega)) (by assumption) ?_) | (with_unfolding_all refine item_led (News.get Nz' (.head _)) (by (first | lia | omega)) (by (first | lia | omega)) (by assumption) ?_))) | (((rename News _ _ _ _ => Nz'); first | (with_unfolding_all refine item_led (News.get Nz' (.tail _ (.head _))) (by (first | lia | omega)) (by (first | lia | omega)) (by assumption) ?_) | (with_unfolding_all refine item_led (News.get Nz' (.head _)) (by (first | lia | omega)) (by (first | lia | omega)) (by assumption) ?_)))) | ((with_reducible show wpAny _ _ (call (Value.builtin "min") _) _ _ _); first | with_reducible (((with_reducible show wpAny _ _ (call (Value.builtin _) [Value.int _ _, Value.int _ _]) _ _ _); (rename Fr _ _ _ _ => Fz'); (rename News _ _ _ _ => Nz'); (rename _ = none => hh'); (with_unfolding_all refine min_two_N hh' Fz' Nz' ?_); (clear Fz' Nz'); intros)) | (((with_reducible show wpAny _ _ (call (Value.builtin _) [Value.int _ _, Value.int _ _]) _ _ _); (rename Fr _ _ _ _ => Fz'); (rename News _ _ _ _ => Nz'); (rename _ = none => hh'); (with_unfolding_all refine min_two_N hh' Fz' Nz' ?_); (clear Fz' Nz'); intros))) | walk1 | (dsimp only; walk1) | (leave1; walk_say "STEP leave1"; try dsimp only at *) | fail "no step")
    all_goals rename Fr _ _ _ _ => Fe
    all_goals rename News _ _ _ _ => Ne
    all_goals simp only [hS, min_if] at Fe Ne
    · rename _ < mn => hlt
      simp only [hS, min_if] at hlt
      refine LStep.next Fe Ne _ (fun p hp => hp) (fun p hp => ?_) ⟨rv, _, _, acc ++ [min (min r rv + 2) (d + subI bc (a.getD i 0))], _, _, rfl, cell_ints hv' hacc (by (first | lia | omega)) _ _, by simp [hacc], ma', mb', mrow', ⟨_, rfl⟩, ⟨_, rfl⟩, ⟨_, rfl⟩, fun q hk => by have e0 := hk "substitute" (by simp); have e1 := hk "distance" (by simp); have e2 := hk "insert_delete" (by simp); have e3 := hk "result" (by simp); have e4 := hk "minimum" (by simp); have e5 := hk "index" (by simp); simp only [e0, e1, e2, e3, e4, e5, if_false]; exact hq q hk, cell_step1 hia hrv hc hlt⟩
      rcases List.mem_cons.mp hp with rfl | hp
      · exact fun e => hIR e.symm
      · exact hoffR p (.tail _ hp)
    · rename ¬ _ < mn => hlt
      simp only [hS, min_if] at hlt
      refine LStep.next Fe Ne _ (fun p hp => hp) (fun p hp => ?_) ⟨rv, _, _, acc ++ [min (min r rv + 2) (d + subI bc (a.getD i 0))], _, _, rfl, cell_ints hv' hacc (by (first | lia | omega)) _ _, by simp [hacc], ma', mb', mrow', ⟨_, rfl⟩, ⟨_, rfl⟩, ⟨_, mm'⟩, fun q hk => by have e0 := hk "substitute" (by simp); have e1 := hk "distance" (by simp); have e2 := hk "insert_delete" (by simp); have e3 := hk "result" (by simp); have e4 := hk "minimum" (by simp); have e5 := hk "index" (by simp); simp only [e0, e1, e2, e3, e4, e5, if_false]; exact hq q hk, cell_step2 hia hrv hc hlt⟩
      rcases List.mem_cons.mp hp with rfl | hp
      · exact fun e => hIR e.symm
      · exact hoffR p (.tail _ hp)
  · clear F2 N2
    rintro h tk m₁ news₁ F₁ N₁ ⟨d, r, mn, acc, vs', c', rfl, hv', hacc, ma', mb', mrow', ⟨_, md'⟩, ⟨_, mr'⟩, ⟨_, mm'⟩, hq, hc⟩
    repeat' (first | wrow_close | ((rename Fr _ _ _ _ => Fz'); (rename News _ _ _ _ => Nz'); (rename GF _ _ => gz'); (first | ((with_reducible show wpAny _ _ (call (.ref 170) _) _ _ _); with_unfolding_all refine sub_c (gz'.keeps Fz'.keep) (dn (by assumption)) (un (by assumption)) (by assumption) (by (first | lia | omega)) (by (first | lia | omega)) ?_)); (intro _ _ _ kz'); (have F1z' := Fr.kp Fz' kz'); (have N1z' := News.grown Nz' kz'); (clear kz' Fz' Nz')) | ((with_reducible show wpAny _ _ (setItem (Value.ref _) (Value.int _ _) _) _ _ _); first | with_reducible (((rename Fr _ _ _ _ => Fz'); (rename News _ _ _ _ => Nz'); (with_unfolding_all refine set_second Fz' Nz' ?h1 ?h2 (by (first | lia | omega)) (by (first | lia | omega)) ?h3 ?_); (case h1 => assumption); (case h2 => assumption); (case h3 => (first | lia | omega)); (clear Fz' Nz'); intro _ _ _)) | (((rename Fr _ _ _ _ => Fz'); (rename News _ _ _ _ => Nz'); (with_unfolding_all refine set_second Fz' Nz' ?h1 ?h2 (by (first | lia | omega)) (by (first | lia | omega)) ?h3 ?_); (case h1 => assumption); (case h2 => assumption); (case h3 => (first | lia | omega)); (clear Fz' Nz'); intro _ _ _))) | ((with_reducible show wpAny _ _ (subscriptTail (Expr.Name _ _) (Expr.Name _ _) (Value.ref _) (Value.int _ _)) _ _ _); first | with_reducible (((rename News _ _ _ _ => Nz'); first | (with_unfolding_all refine item_led (News.get Nz' (.tail _ (.head _))) (by (first | lia | omega)) (by (first | lia | omega)) (by assumption) ?_) | (with_unfolding_all refine item_led (News.get Nz' (.head _)) (by (first | lia | omega)) (by (first | lia | omega)) (by assumption) ?_))) | (((rename News _ _ _ _ => Nz'); first | (with_unfolding_all refine item_led (News.get Nz' (.tail _ (.head _))) (by (first | lia | omega)) (by (first | lia | omega)) (by assumption) ?_) | (with_unfolding_all refine item_led (News.get Nz' (.head _)) (by (first | lia | omega)) (by (first | lia | omega)) (by assumption) ?_)))) | ((with_reducible show wpAny _ _ (call (Value.builtin "min") _) _ _ _); first | with_reducible (((with_reducible show wpAny _ _ (call (Value.builtin _) [Value.int _ _, Value.int _ _]) _ _ _); (rename Fr _ _ _ _ => Fz'); (rename News _ _ _ _ => Nz'); (rename _ = none => hh'); (with_unfolding_all refine min_two_N hh' Fz' Nz' ?_); (clear Fz' Nz'); intros)) | (((with_reducible show wpAny _ _ (call (Value.builtin _) [Value.int _ _, Value.int _ _]) _ _ _); (rename Fr _ _ _ _ => Fz'); (rename News _ _ _ _ => Nz'); (rename _ = none => hh'); (with_unfolding_all refine min_two_N hh' Fz' Nz' ?_); (clear Fz' Nz'); intros))) | walk1 | (dsimp only; walk1) | (leave1; walk_say "STEP leave1"; try dsimp only at *) | fail "no step")
    all_goals (try dsimp only)
    refine rest _ _ _ _ _ r mn acc _ _ F₁ N₁ ?_ ?_ mr' mm' hq
    · rw [List.drop_eq_nil_of_le (by (first | lia | omega)), List.append_nil] at hv'; exact hv'
    · rw [← hc, List.drop_eq_nil_of_le (by simp [List.length_zip]; (first | lia | omega))]; rfl
end
-- PLev4
section
theorem item_char {y : PySem.Str} {b : List Nat} {i : Nat} (hy : sL b = y) (hi : i < y.length) : Txt.item y (i : Int) = ⟨#[b.getD i 0]⟩ := by
  subst hy; rw [sL_len] at hi; rw [item_sL b i hi]
theorem rows_step {a b : List Nat} {row row' : List Int} {i : Nat} {r r' mn' R : Int} (hi : i < b.length) (h : rowsS a (b.drop i) i row r = R) (hc : cellS (b.getD i 0) (2 * i) (2 * i) 9223372036854775807 [] (a.zip row) = (r', mn', row')) (hm : ¬ mn' > 2) : rowsS a (b.drop (i + 1)) (i + 1) row' r' = R := by
  rw [← h, drop_getD b hi, rowsS, hc, if_neg hm]
theorem rows_stop {a b : List Nat} {row row' : List Int} {i : Nat} {r r' mn' R : Int} (hi : i < b.length) (h : rowsS a (b.drop i) i row r = R) (hc : cellS (b.getD i 0) (2 * i) (2 * i) 9223372036854775807 [] (a.zip row) = (r', mn', row')) (hm : mn' > 2) : 3 = R := by
  rw [← h, drop_getD b hi, rowsS, hc, if_pos hm]
theorem cell_len : ∀ (l : List (Nat × Int)) (bc : Nat) (d r mn : Int) (acc : List Int), (cellS bc d r mn acc l).2.2.length = acc.length + l.length := by
  intro l
  induction l with
  | nil => intros; rfl
  | cons p l ih =>
    obtain ⟨ca, rv⟩ := p
    intro bc d r mn acc
    rw [cellS, ih]; simp; (first | lia | omega)
theorem cell_len' {a : List Nat} {row acc : List Int} {bc : Nat} {d r mn r' mn' : Int} (hc : cellS bc d r mn [] (a.zip row) = (r', mn', acc)) (h : row.length = a.length) : acc.length = a.length := by
  have := cell_len (a.zip row) bc d r mn []
  rw [hc] at this
  simpa [List.length_zip, h] using this
theorem Fr.pack {h₀ h : Heap} {L : Addr} {m : PySem.Str → Option Value} (F : Fr h₀ L h m) : ∃ M, M = m ∧ Fr h₀ L h M := ⟨m, rfl, F⟩
theorem News.swap {h₀ h : Heap} {L : Addr} {p q : Addr × Obj} (N : News h₀ L h [p, q]) : News h₀ L h [q, p] := fun r hr => N r (by rcases List.mem_cons.mp hr with rfl | hr; exact .tail _ (.head _); rw [List.mem_singleton.mp hr]; exact .head _)
theorem nm_ok : True := trivial
end
-- WF4
section
set_option maxHeartbeats 4000000 in
theorem lev_outer {w : World} {s s₀ : Shared} {A : Around} {Q : Flow → Shared → Prop} {h₀ : Heap} {L : Addr} {mg mb m : PySem.Str → Option Value} {x y : PySem.Str} {a b : List Nat} {row₀ : List Int} {R : Addr} {vs : Array Value} {c : Nat} {ta tb tc tr : Tok} (T : Top qv (looseW qv looseX) (ExcName.means s₀.heap) mg mb h₀) (GL : GLt mg mb h₀) (KX : (kF w.params).In h₀) (g : GF w h₀)
    (F : Fr h₀ L s.heap m) (N : News h₀ L s.heap [(R, { cls := .type "list", data := .seq vs c })]) (hA : A.depth ≤ 410) (hU : A.units ≤ 90) (hh : A.handled = none) (hx : sL a = x) (hy : sL b = y) (hz : x.length ≤ 25) (hz2 : y.length ≤ 25) (hrow : row₀.length = x.length) (hv : IntsAre vs.toList row₀) (ma : m (PySem.Str.ofString "a") = some (.str x ta)) (mb : m (PySem.Str.ofString "b") = some (.str y tb)) (mrow : m (PySem.Str.ofString "row") = some (.ref R)) (mc : m (PySem.Str.ofString "max_cost") = some (.int 2 tc)) (mr : m (PySem.Str.ofString "result") = some (.int 0 tr))
    (rest : ∀ h tk m' tr, Fr h₀ L h m' → m' (PySem.Str.ofString "result") = some (.int (rowsS a b 0 row₀ 0) tr) → Q .next { s with heap := h, toks := tk }) (stop : ∀ h tk t3, Kp h₀ h → rowsS a b 0 row₀ 0 = 3 → Q (.ret (.int 3 t3)) { s with heap := h, toks := tk }) :
    wpAny (model pw w) (A.deeper (envOf (PySem.Str.ofString "_levenshtein_distance") (fdS 25) L 177 (Value.ref 176))) (exec ((fdB 25).getD 15 dStmt) (envOf (PySem.Str.ofString "_levenshtein_distance") (fdS 25) L 177 (Value.ref 176))) Q (fun _ _ => False) s := by
  conv => pattern List.getD (fdB 25) _ _; whnf
  conv => pattern (occs := *) fdS 25; all_goals whnf
  w_on
  with_unfolding_all refine For_at F (by rfl) (by rfl) ?_
  repeat' (first | wrow_close | ((rename Fr _ _ _ _ => Fz'); (rename News _ _ _ _ => Nz'); (rename GF _ _ => gz'); (first | ((with_reducible show wpAny _ _ (call (.ref 170) _) _ _ _); with_unfolding_all refine sub_c (gz'.keeps Fz'.keep) (dn (by assumption)) (un (by assumption)) (by assumption) (by (first | lia | omega)) (by (first | lia | omega)) ?_)); (intro _ _ _ kz'); (have F1z' := Fr.kp Fz' kz'); (have N1z' := News.grown Nz' kz'); (clear kz' Fz' Nz')) | ((with_reducible show wpAny _ _ (setItem (Value.ref _) (Value.int _ _) _) _ _ _); first | with_reducible (((rename Fr _ _ _ _ => Fz'); (rename News _ _ _ _ => Nz'); (with_unfolding_all refine set_second Fz' Nz' ?h1 ?h2 (by (first | lia | omega)) (by (first | lia | omega)) ?h3 ?_); (case h1 => assumption); (case h2 => assumption); (case h3 => (first | lia | omega)); (clear Fz' Nz'); intro _ _ _)) | (((rename Fr _ _ _ _ => Fz'); (rename News _ _ _ _ => Nz'); (with_unfolding_all refine set_second Fz' Nz' ?h1 ?h2 (by (first | lia | omega)) (by (first | lia | omega)) ?h3 ?_); (case h1 => assumption); (case h2 => assumption); (case h3 => (first | lia | omega)); (clear Fz' Nz'); intro _ _ _))) | ((with_reducible show wpAny _ _ (subscriptTail (Expr.Name _ _) (Expr.Name _ _) (Value.ref _) (Value.int _ _)) _ _ _); first | with_reducible (((rename News _ _ _ _ => Nz'); first | (with_unfolding_all refine item_led (News.get Nz' (.tail _ (.head _))) (by (first | lia | omega)) (by (first | lia | omega)) (by assumption) ?_) | (with_unfolding_all refine item_led (News.get Nz' (.head _)) (by (first | lia | omega)) (by (first | lia | omega)) (by assumption) ?_))) | (((rename News _ _ _ _ => Nz'); first | (with_unfolding_all refine item_led (News.get Nz' (.tail _ (.head _))) (by (first | lia | omega)) (by (first | lia | omega)) (by assumption) ?_) | (with_unfolding_all refine item_led (News.get Nz' (.head _)) (by (first | lia | omega)) (by (first | lia | omega)) (by assumption) ?_)))) | ((with_reducible show wpAny _ _ (call (Value.builtin "min") _) _ _ _); first | with_reducible (((with_reducible show wpAny _ _ (call (Value.builtin _) [Value.int _ _, Value.int _ _]) _ _ _); (rename Fr _ _ _ _ => Fz'); (rename News _ _ _ _ => Nz'); (rename _ = none => hh'); (with_unfolding_all refine min_two_N hh' Fz' Nz' ?_); (clear Fz' Nz'); intros)) | (((with_reducible show wpAny _ _ (call (Value.builtin _) [Value.int _ _, Value.int _ _]) _ _ _); (rename Fr _ _ _ _ => Fz'); (rename News _ _ _ _ => Nz'); (rename _ = none => hh'); (with_unfolding_all refine min_two_N hh' Fz' Nz' ?_); (clear Fz' Nz'); intros))) | walk1 | (dsimp only; walk1) | (leave1; walk_say "STEP leave1"; try dsimp only at *) | fail "no step")
  dsimp only
  rename Fr _ _ _ _ => F2
  rename News _ _ _ _ => N2
  refine ForAt.range (n := y.length) (J := (fun i M news => ∃ (row : List Int) (r : Int) (vs : Array Value) (c : Nat), news = [(R, { cls := .type "list", data := .seq vs c })] ∧ IntsAre vs.toList row ∧ row.length = x.length ∧ M (PySem.Str.ofString "a") = some (.str x ta) ∧ M (PySem.Str.ofString "b") = some (.str y tb) ∧ M (PySem.Str.ofString "row") = some (.ref R) ∧ M (PySem.Str.ofString "max_cost") = some (.int 2 tc) ∧ (∃ tt, M (PySem.Str.ofString "result") = some (.int r tt)) ∧ rowsS a (b.drop i) i row r = rowsS a b 0 row₀ 0)) hh (by assumption) (rsmall (by (first | lia | omega))) (rsize _) F2 N2 ⟨row₀, 0, vs, c, rfl, hv, hrow, ma, mb, mrow, mc, ⟨_, mr⟩, rfl⟩ ?_ ?_
  · clear F2 N2 rest
    rintro i t m₁ news₁ h tk I o hi ⟨row, r, vs', c', rfl, hv', hrl, ma', mb', mrow', mc', ⟨_, mr'⟩, hrr⟩ hoff F₁ N₁
    rw [show (0:Int) + (i:Int)*1 = (i:Int) by (first | lia | omega)] at F₁
    have hIR : I ≠ R := fun e => hoff _ (.head _) e.symm
    have hib : i < b.length := by rw [← sL_len, hy]; exact hi
    have hbi := item_char hy hi
    clear hv hoff ma mb mrow mc mr hrow
    repeat' (first | wrow_close | ((rename Fr _ _ _ _ => Fz'); (rename News _ _ _ _ => Nz'); (rename GF _ _ => gz'); (first | ((with_reducible show wpAny _ _ (call (.ref 170) _) _ _ _); with_unfolding_all refine sub_c (gz'.keeps Fz'.keep) (dn (by assumption)) (un (by assumption)) (by assumption) (by (first | lia | omega)) (by (first | lia | omega)) ?_)); (intro _ _ _ kz'); (have F1z' := Fr.kp Fz' kz'); (have N1z' := News.grown Nz' kz'); (clear kz' Fz' Nz')) | ((with_reducible show wpAny _ _ (setItem (Value.ref _) (Value.int _ _) _) _ _ _); first | with_reducible (((rename Fr _ _ _ _ => Fz'); (rename News _ _ _ _ => Nz'); (with_unfolding_all refine set_second Fz' Nz' ?h1 ?h2 (by (first | lia | omega)) (by (first | lia | omega)) ?h3 ?_); (case h1 => assumption); (case h2 => assumption); (case h3 => (first | lia | omega)); (clear Fz' Nz'); intro _ _ _)) | (((rename Fr _ _ _ _ => Fz'); (rename News _ _ _ _ => Nz'); (with_unfolding_all refine set_second Fz' Nz' ?h1 ?h2 (by (first | lia | omega)) (by (first | lia | omega)) ?h3 ?_); (case h1 => assumption); (case h2 => assumption); (case h3 => (first | lia | omega)); (clear Fz' Nz'); intro _ _ _))) | ((with_reducible show wpAny _ _ (subscriptTail (Expr.Name _ _) (Expr.Name _ _) (Value.ref _) (Value.int _ _)) _ _ _); first | with_reducible (((rename News _ _ _ _ => Nz'); first | (with_unfolding_all refine item_led (News.get Nz' (.tail _ (.head _))) (by (first | lia | omega)) (by (first | lia | omega)) (by assumption) ?_) | (with_unfolding_all refine item_led (News.get Nz' (.head _)) (by (first | lia | omega)) (by (first | lia | omega)) (by assumption) ?_))) | (((rename News _ _ _ _ => Nz'); first | (with_unfolding_all refine item_led (News.get Nz' (.tail _ (.head _))) (by (first | lia | omega)) (by (first | lia | omega)) (by assumption) ?_) | (with_unfolding_all refine item_led (News.get Nz' (.head _)) (by (first | lia | omega)) (by (first | lia | omega)) (by assumption) ?_)))) | ((with_reducible show wpAny _ _ (call (Value.builtin "min") _) _ _ _); first | with_reducible (((with_reducible show wpAny _ _ (call (Value.builtin _) [Value.int _ _, Value.int _ _]) _ _ _); (rename Fr _ _ _ _ => Fz'); (rename News _ _ _ _ => Nz'); (rename _ = none => hh'); (with_unfolding_all refine min_two_N hh' Fz' Nz' ?_); (clear Fz' Nz'); intros)) | (((with_reducible show wpAny _ _ (call (Value.builtin _) [Value.int _ _, Value.int _ _]) _ _ _); (rename Fr _ _ _ _ => Fz'); (rename News _ _ _ _ => Nz'); (rename _ = none => hh'); (with_unfolding_all refine min_two_N hh' Fz' Nz' ?_); (clear Fz' Nz'); intros))) | walk1 | (dsimp only; walk1) | (leave1; walk_say "STEP leave1"; try dsimp only at *) | fail "no step")
    refine Halt.on ?_
    rename Fr _ _ _ _ => Fe
    rename News _ _ _ _ => Ne
    rename IntsAre _ _ => hv'
    rw [hbi, show (i : Int) * 2 = 2 * (i : Int) by (first | lia | omega)] at Fe
    obtain ⟨M, hM, FM⟩ := Fr.pack Fe
    have ma1 : M (PySem.Str.ofString "a") = some (.str x ta) := by rw [hM]; exact ma'
    have mb1 : M (PySem.Str.ofString "b") = some (.str y tb) := by rw [hM]; exact mb'
    have mrow1 : M (PySem.Str.ofString "row") = some (.ref R) := by rw [hM]; exact mrow'
    have mc1 : M (PySem.Str.ofString "max_cost") = some (.int 2 tc) := by rw [hM]; exact mc'
    have mbc1 : (∃ tt, M (PySem.Str.ofString "bchar") = some (.str ⟨#[b.getD i 0]⟩ tt)) := by rw [hM]; exact ⟨_, rfl⟩
    have md1 : (∃ tt, M (PySem.Str.ofString "distance") = some (.int (2 * (i : Int)) tt)) := by rw [hM]; exact ⟨_, rfl⟩
    have mr1 : (∃ tt, M (PySem.Str.ofString "result") = some (.int (2 * (i : Int)) tt)) := by rw [hM]; exact ⟨_, rfl⟩
    have mm1 : (∃ tt, M (PySem.Str.ofString "minimum") = some (.int 9223372036854775807 tt)) := by rw [hM]; exact ⟨_, rfl⟩
    clear hM Fe
    obtain ⟨_, mbc1⟩ := mbc1
    obtain ⟨_, md1⟩ := md1
    obtain ⟨_, mr1⟩ := mr1
    obtain ⟨_, mm1⟩ := mm1
    refine lev_inner (s := ⟨_, _, _, _, _⟩) (L := L) (extra := [(I, o)]) T GL KX g FM (News.swap Ne) hA hU hh hx hz hrl hv' (fun p hp => by rw [List.mem_singleton.mp hp]; exact hIR) ma1 mbc1 mrow1 md1 mr1 mm1 ?_
    clear FM Ne
    rintro h tk m' vs2 c2 r2 mn2 acc2 tr2 tm2 Fe Ne hv2 hc2 mr2 mm2 hq
    have ma2 : m' (PySem.Str.ofString "a") = some (.str x ta) := ((hq (PySem.Str.ofString "a") (by decide)).trans ma1)
    have mb2 : m' (PySem.Str.ofString "b") = some (.str y tb) := ((hq (PySem.Str.ofString "b") (by decide)).trans mb1)
    have mrow2 : m' (PySem.Str.ofString "row") = some (.ref R) := ((hq (PySem.Str.ofString "row") (by decide)).trans mrow1)
    have mc2 : m' (PySem.Str.ofString "max_cost") = some (.int 2 tc) := ((hq (PySem.Str.ofString "max_cost") (by decide)).trans mc1)
    have hl2 : acc2.length = x.length := by rw [cell_len' hc2 (by rw [hrl, ← hx, sL_len]), ← hx, sL_len]
    clear hq ma1 mb1 mrow1 mc1 mr1 ma' mb' mrow' mc' mr'
    dsimp only
    repeat' (first | wrow_close | ((rename Fr _ _ _ _ => Fz'); (rename News _ _ _ _ => Nz'); (rename GF _ _ => gz'); (first | ((with_reducible show wpAny _ _ (call (.ref 170) _) _ _ _); with_unfolding_all refine sub_c (gz'.keeps Fz'.keep) (dn (by assumption)) (un (by assumption)) (by assumption) (by (first | lia | omega)) (by (first | lia | omega)) ?_)); (intro _ _ _ kz'); (have F1z' := Fr.kp Fz' kz'); (have N1z' := News.grown Nz' kz'); (clear kz' Fz' Nz')) | ((with_reducible show wpAny _ _ (setItem (Value.ref _) (Value.int _ _) _) _ _ _); first | with_reducible (((rename Fr _ _ _ _ => Fz'); (rename News _ _ _ _ => Nz'); (with_unfolding_all refine set_second Fz' Nz' ?h1 ?h2 (by (first | lia | omega)) (by (first | lia | omega)) ?h3 ?_); (case h1 => assumption); (case h2 => assumption); (case h3 => (first | lia | omega)); (clear Fz' Nz'); intro _ _ _)) | (((rename Fr _ _ _ _ => Fz'); (rename News _ _ _ _ => Nz'); (with_unfolding_all refine set_second Fz' Nz' ?h1 ?h2 (by (first | lia | omega)) (by (first | lia | omega)) ?h3 ?_); (case h1 => assumption); (case h2 => assumption); (case h3 => (first | lia | omega)); (clear Fz' Nz'); intro _ _ _))) | ((with_reducible show wpAny _ _ (subscriptTail (Expr.Name _ _) (Expr.Name _ _) (Value.ref _) (Value.int _ _)) _ _ _); first | with_reducible (((rename News _ _ _ _ => Nz'); first | (with_unfolding_all refine item_led (News.get Nz' (.tail _ (.head _))) (by (first | lia | omega)) (by (first | lia | omega)) (by assumption) ?_) | (with_unfolding_all refine item_led (News.get Nz' (.head _)) (by (first | lia | omega)) (by (first | lia | omega)) (by assumption) ?_))) | (((rename News _ _ _ _ => Nz'); first | (with_unfolding_all refine item_led (News.get Nz' (.tail _ (.head _))) (by (first | lia | omega)) (by (first | lia | omega)) (by assumption) ?_) | (with_unfolding_all refine item_led (News.get Nz' (.head _)) (by (first | lia | omega)) (by (first | lia | omega)) (by assumption) ?_)))) | ((with_reducible show wpAny _ _ (call (Value.builtin "min") _) _ _ _); first | with_reducible (((with_reducible show wpAny _ _ (call (Value.builtin _) [Value.int _ _, Value.int _ _]) _ _ _); (rename Fr _ _ _ _ => Fz'); (rename News _ _ _ _ => Nz'); (rename _ = none => hh'); (with_unfolding_all refine min_two_N hh' Fz' Nz' ?_); (clear Fz' Nz'); intros)) | (((with_reducible show wpAny _ _ (call (Value.builtin _) [Value.int _ _, Value.int _ _]) _ _ _); (rename Fr _ _ _ _ => Fz'); (rename News _ _ _ _ => Nz'); (rename _ = none => hh'); (with_unfolding_all refine min_two_N hh' Fz' Nz' ?_); (clear Fz' Nz'); intros))) | walk1 | (dsimp only; walk1) | (leave1; walk_say "STEP leave1"; try dsimp only at *) | fail "no step")
    all_goals (try dsimp only)
    · rename 2 < _ => hgt
      refine LStep.ret ?_
      rename Fr _ _ _ _ => Fx
      exact stop _ _ _ Fx.keep (rows_stop hib hrr hc2 hgt).symm
    · rename ¬ 2 < _ => hgt
      rename Fr _ _ _ _ => Fx
      rename News _ _ _ _ => Nx
      exact LStep.next Fx Nx [(R, _)] (fun p hp => by rcases List.mem_cons.mp hp with rfl | hp; exact .tail _ (.head _); rw [List.mem_singleton.mp hp]; exact .head _) (fun p hp => by rw [List.mem_singleton.mp hp]; exact fun e => hIR e.symm) ⟨acc2, r2, _, _, rfl, hv2, hl2, ma2, mb2, mrow2, mc2, ⟨_, mr2⟩, rows_step hib hrr hc2 hgt⟩
  · clear F2 N2
    rintro h tk m₁ news₁ F₁ N₁ ⟨row, r, vs', c', rfl, hv', hrl, ma', mb', mrow', mc', ⟨tr', mr'⟩, hrr⟩
    repeat' (first | wrow_close | ((rename Fr _ _ _ _ => Fz'); (rename News _ _ _ _ => Nz'); (rename GF _ _ => gz'); (first | ((with_reducible show wpAny _ _ (call (.ref 170) _) _ _ _); with_unfolding_all refine sub_c (gz'.keeps Fz'.keep) (dn (by assumption)) (un (by assumption)) (by assumption) (by (first | lia | omega)) (by (first | lia | omega)) ?_)); (intro _ _ _ kz'); (have F1z' := Fr.kp Fz' kz'); (have N1z' := News.grown Nz' kz'); (clear kz' Fz' Nz')) | ((with_reducible show wpAny _ _ (setItem (Value.ref _) (Value.int _ _) _) _ _ _); first | with_reducible (((rename Fr _ _ _ _ => Fz'); (rename News _ _ _ _ => Nz'); (with_unfolding_all refine set_second Fz' Nz' ?h1 ?h2 (by (first | lia | omega)) (by (first | lia | omega)) ?h3 ?_); (case h1 => assumption); (case h2 => assumption); (case h3 => (first | lia | omega)); (clear Fz' Nz'); intro _ _ _)) | (((rename Fr _ _ _ _ => Fz'); (rename News _ _ _ _ => Nz'); (with_unfolding_all refine set_second Fz' Nz' ?h1 ?h2 (by (first | lia | omega)) (by (first | lia | omega)) ?h3 ?_); (case h1 => assumption); (case h2 => assumption); (case h3 => (first | lia | omega)); (clear Fz' Nz'); intro _ _ _))) | ((with_reducible show wpAny _ _ (subscriptTail (Expr.Name _ _) (Expr.Name _ _) (Value.ref _) (Value.int _ _)) _ _ _); first | with_reducible (((rename News _ _ _ _ => Nz'); first | (with_unfolding_all refine item_led (News.get Nz' (.tail _ (.head _))) (by (first | lia | omega)) (by (first | lia | omega)) (by assumption) ?_) | (with_unfolding_all refine item_led (News.get Nz' (.head _)) (by (first | lia | omega)) (by (first | lia | omega)) (by assumption) ?_))) | (((rename News _ _ _ _ => Nz'); first | (with_unfolding_all refine item_led (News.get Nz' (.tail _ (.head _))) (by (first | lia | omega)) (by (first | lia | omega)) (by assumption) ?_) | (with_unfolding_all refine item_led (News.get Nz' (.head _)) (by (first | lia | omega)) (by (first | lia | omega)) (by assumption) ?_)))) | ((with_reducible show wpAny _ _ (call (Value.builtin "min") _) _ _ _); first | with_reducible (((with_reducible show wpAny _ _ (call (Value.builtin _) [Value.int _ _, Value.int _ _]) _ _ _); (rename Fr _ _ _ _ => Fz'); (rename News _ _ _ _ => Nz'); (rename _ = none => hh'); (with_unfolding_all refine min_two_N hh' Fz' Nz' ?_); (clear Fz' Nz'); intros)) | (((with_reducible show wpAny _ _ (call (Value.builtin _) [Value.int _ _, Value.int _ _]) _ _ _); (rename Fr _ _ _ _ => Fz'); (rename News _ _ _ _ => Nz'); (rename _ = none => hh'); (with_unfolding_all refine min_two_N hh' Fz' Nz' ?_); (clear Fz' Nz'); intros))) | walk1 | (dsimp only; walk1) | (leave1; walk_say "STEP leave1"; try dsimp only at *) | fail "no step")
    all_goals (try dsimp only)
    refine rest _ _ _ tr' F₁ ?_
    rw [mr', ← hrr, List.drop_eq_nil_of_le (by rw [← hy, sL_len]; exact Nat.le_refl _)]; rfl
end
-- WF5
section
local macro_rules | `(tactic| walk_at "truthy int") => `(tactic| first | refine tr_nz (by omega) ?_ | refine tr_z (by omega) ?_)
set_option maxHeartbeats 4000000 in
theorem lev_sufA {w : World} {s s₀ : Shared} {A : Around} {Q : Flow → Shared → Prop} {h₀ : Heap} {L : Addr} {mg mb m : PySem.Str → Option Value} {x : PySem.Str} {a : List Nat} {p : Nat} {ta tp : Tok} (T : Top qv (looseW qv looseX) (ExcName.means s₀.heap) mg mb h₀) (GL : GLt mg mb h₀) (KX : (kF w.params).In h₀) (g : GF w h₀)
    (F : Fr h₀ L s.heap m) (N : News h₀ L s.heap []) (hA : A.depth ≤ 410) (hU : A.units ≤ 90) (hh : A.handled = none) (hx : sL a = x) (hz : x.length ≤ 25) (hp : p ≤ x.length) (ma : m (PySem.Str.ofString "a") = some (.str x ta)) (mp : m (PySem.Str.ofString "post") = some (.int (-(p : Int)) tp))
    (rest : ∀ h tk t', Fr h₀ L h (fun y => if y = (PySem.Str.ofString "a") then some (.str (sL (a.take (a.length - p))) t') else m y) → News h₀ L h [] → Q .next { s with heap := h, toks := tk }) :
    wpAny (model pw w) (A.deeper (envOf (PySem.Str.ofString "_levenshtein_distance") (fdS 25) L 177 (Value.ref 176))) (exec ((fdB 25).getD 7 dStmt) (envOf (PySem.Str.ofString "_levenshtein_distance") (fdS 25) L 177 (Value.ref 176))) Q (fun _ _ => False) s := by
  conv => pattern List.getD (fdB 25) _ _; whnf
  conv => pattern (occs := *) fdS 25; all_goals whnf
  w_on
  have g1 := neg_len hx hp
  have g3 := all_len hx
  have e1 : p ≠ 0 → Txt.slice x none (some (-(p : Int))) = sL (a.take (a.length - p)) := fun h0 => by rw [← hx]; exact slice_neg a p (by rw [← hx, sL_len] at hp; exact hp) h0
  have e2 : p = 0 → Txt.slice x none none = sL (a.take (a.length - p)) := fun h0 => by rw [← hx, slice_all, h0, Nat.sub_zero, List.take_of_length_le (Nat.le_refl _)]
  rcases Nat.eq_zero_or_pos p with hp0 | hp0 <;> wrow_steps
  · rename Fr _ _ _ _ => Fe
    rename News _ _ _ _ => Ne
    rw [e2 hp0] at Fe
    exact rest _ _ _ Fe Ne
  · rename Fr _ _ _ _ => Fe
    rename News _ _ _ _ => Ne
    rw [e1 (by omega)] at Fe
    exact rest _ _ _ Fe Ne
set_option maxHeartbeats 4000000 in
theorem lev_sufB {w : World} {s s₀ : Shared} {A : Around} {Q : Flow → Shared → Prop} {h₀ : Heap} {L : Addr} {mg mb m : PySem.Str → Option Value} {x : PySem.Str} {a : List Nat} {p : Nat} {ta tp : Tok} (T : Top qv (looseW qv looseX) (ExcName.means s₀.heap) mg mb h₀) (GL : GLt mg mb h₀) (KX : (kF w.params).In h₀) (g : GF w h₀)
    (F : Fr h₀ L s.heap m) (N : News h₀ L s.heap []) (hA : A.depth ≤ 410) (hU : A.units ≤ 90) (hh : A.handled = none) (hx : sL a = x) (hz : x.length ≤ 25) (hp : p ≤ x.length) (ma : m (PySem.Str.ofString "b") = some (.str x ta)) (mp : m (PySem.Str.ofString "post") = some (.int (-(p : Int)) tp))
    (rest : ∀ h tk t', Fr h₀ L h (fun y => if y = (PySem.Str.ofString "b") then some (.str (sL (a.take (a.length - p))) t') else m y) → News h₀ L h [] → Q .next { s with heap := h, toks := tk }) :
    wpAny (model pw w) (A.deeper (envOf (PySem.Str.ofString "_levenshtein_distance") (fdS 25) L 177 (Value.ref 176))) (exec ((fdB 25).getD 8 dStmt) (envOf (PySem.Str.ofString "_levenshtein_distance") (fdS 25) L 177 (Value.ref 176))) Q (fun _ _ => False) s := by
  conv => pattern List.getD (fdB 25) _ _; whnf
  conv => pattern (occs := *) fdS 25; all_goals whnf
  w_on
  have g1 := neg_len hx hp
  have g3 := all_len hx
  have e1 : p ≠ 0 → Txt.slice x none (some (-(p : Int))) = sL (a.take (a.length - p)) := fun h0 => by rw [← hx]; exact slice_neg a p (by rw [← hx, sL_len] at hp; exact hp) h0
  have e2 : p = 0 → Txt.slice x none none = sL (a.take (a.length - p)) := fun h0 => by rw [← hx, slice_all, h0, Nat.sub_zero, List.take_of_length_le (Nat.le_refl _)]
  rcases Nat.eq_zero_or_pos p with hp0 | hp0 <;> wrow_steps
  · rename Fr _ _ _ _ => Fe
    rename News _ _ _ _ => Ne
    rw [e2 hp0] at Fe
    exact rest _ _ _ Fe Ne
  · rename Fr _ _ _ _ => Fe
    rename News _ _ _ _ => Ne
    rw [e1 (by omega)] at Fe
    exact rest _ _ _ Fe Ne
end
-- PLev5
section
theorem suf_take (l : List Nat) (q : Nat) : (l.reverse.drop q).reverse = l.take (l.length - q) := by
  rw [List.drop_reverse, List.reverse_reverse]
theorem lev_core {a b : List Nat} {p q : Nat} (hne : a ≠ b) (h1 : stripPre a b = (a.drop p, b.drop p)) (h2 : stripPre (a.drop p).reverse (b.drop p).reverse = ((a.drop p).reverse.drop q, (b.drop p).reverse.drop q)) :
    levS a b = coreS ((a.drop p).take ((a.drop p).length - q)) ((b.drop p).take ((b.drop p).length - q)) := by
  unfold levS
  rw [if_neg hne, h1]
  unfold stripSuf
  rw [h2, suf_take, suf_take]
theorem core_nil {a b : List Nat} {x y : PySem.Str} (hx : sL a = x) (hy : sL b = y) (h : x.length = 0 ∨ y.length = 0) : coreS a b = 2 * ((x.length : Int) + y.length) := by
  rw [← hx, ← hy, sL_len, sL_len]
  unfold coreS
  rw [if_pos]
  rcases h with h | h
  · left; rw [← hx, sL_len] at h; exact List.eq_nil_of_length_eq_zero h
  · right; rw [← hy, sL_len] at h; exact List.eq_nil_of_length_eq_zero h
theorem core_lt {a b : List Nat} {x y : PySem.Str} (hx : sL a = x) (hy : sL b = y) (h1 : x.length ≠ 0) (h2 : y.length ≠ 0) (h : y.length < x.length) : coreS a b = dpS b a := by
  rw [← hx, sL_len] at h1 h; rw [← hy, sL_len] at h2 h
  unfold coreS
  rw [if_neg, if_pos h]
  rintro (e | e) <;> simp [e] at h1 h2
theorem core_ge {a b : List Nat} {x y : PySem.Str} (hx : sL a = x) (hy : sL b = y) (h1 : x.length ≠ 0) (h2 : y.length ≠ 0) (h : ¬ y.length < x.length) : coreS a b = dpS a b := by
  rw [← hx, sL_len] at h1 h; rw [← hy, sL_len] at h2 h
  unfold coreS
  rw [if_neg, if_neg h]
  rintro (e | e) <;> simp [e] at h1 h2
theorem dp_far {a b : List Nat} {x y : PySem.Str} (hx : sL a = x) (hy : sL b = y) (h : (y.length - x.length) * 2 > 2) : dpS a b = 3 := by
  rw [← hx, ← hy, sL_len, sL_len] at h
  unfold dpS; rw [if_pos h]
theorem dp_near {a b : List Nat} {x y : PySem.Str} (hx : sL a = x) (hy : sL b = y) (h : ¬ (y.length - x.length) * 2 > 2) : dpS a b = rowsS a b 0 (row0 a.length) 0 := by
  rw [← hx, ← hy, sL_len, sL_len] at h
  unfold dpS; rw [if_neg h]
section
variable {prog : Program} {w : World} {A : Around} {E : Value → Shared → Prop} {s : Shared} {h₀ : Heap} {L : Addr} {m : Str → Option Value}
theorem ints_of_get : ∀ {l : List Value} {ns : List Int}, l.length = ns.length → (∀ (j : Nat) (x : Int), ns[j]? = some x → ∃ t, l[j]? = some (Value.int x t)) → IntsAre l ns := by
  intro l
  induction l with
  | nil => intro ns h _; cases ns with
    | nil => exact .nil
    | cons _ _ => cases h
  | cons v l ih =>
    intro ns h hg
    cases ns with
    | nil => cases h
    | cons x ns =>
      obtain ⟨t, ht⟩ := hg 0 x (by simp)
      have : v = Value.int x t := by simpa using ht
      subst this
      exact .cons _ _ (ih (by simpa using h) fun j y hy => by
        obtain ⟨t, ht⟩ := hg (j + 1) y (by simpa using hy)
        exact ⟨t, by simpa using ht⟩)
theorem ints_of_items (a c : Int) {vs : Array Value} {n : Nat} (h : ItemsOf (fun i v => ∃ t, v = .int (a + i * c) t) vs n) : IntsAre vs.toList ((List.range n).map fun (i : Nat) => a + i * c) := by
  refine ints_of_get (by simp [h.1]) fun j x hx => ?_
  rw [List.getElem?_map] at hx
  have hj : j < n := by
    rcases Nat.lt_or_ge j n with q | q
    · exact q
    · rw [List.getElem?_eq_none (by simpa using q)] at hx; cases hx
  rw [List.getElem?_range hj] at hx
  have hx : a + j * c = x := by simpa using hx
  have hs : j < vs.size := by rw [h.1]; exact hj
  obtain ⟨t, ht⟩ := h.2 j vs[j] (Array.getElem?_eq_getElem hs)
  refine ⟨t, ?_⟩
  rw [Array.getElem?_toList, Array.getElem?_eq_getElem hs, ht, hx]
theorem list_range_led {r : Addr} {a b c : Int} {t u v : Tok} {n : Nat} {news : List (Addr × Obj)} {Q : Value → Shared → Prop} (hh : A.handled = none) (F : Fr h₀ L s.heap m) (N : News h₀ L s.heap news)
    (hr : IsRange s.heap r a b c t u v) (hsmall : Builtin.Range.small a b c = true) (hn : Builtin.Range.rangeSize a b c = n) (hlen : n ≤ 2 ^ 24)
    (hQ : ∀ R h' tk vs c', Fr h₀ L h' m → News h₀ L h' ((R, { cls := .type "list", data := .seq vs c' }) :: news) → (∀ p ∈ news, p.1 ≠ R) → IntsAre vs.toList ((List.range n).map fun (i : Nat) => a + i * c) → Q (.ref R) { s with heap := h', toks := tk }) :
    wpAny (model prog w) A (call (.type "list") [.ref r]) Q E s := by
  refine call_list_range hh hr hsmall hn hlen fun h' tk acc' c' hk hS' hacc => ?_
  have hLI : L ≠ s.heap.objs.size := fun e => by have := F.ns.lt; rw [e] at this; exact Nat.lt_irrefl _ this
  refine hQ _ _ _ acc' c' (Fr.kp F hk) (fun p hp => ?_) (fun p hp e => ?_) (ints_of_items a c hacc)
  · rcases List.mem_cons.mp hp with rfl | hp
    · exact ⟨hS', hLI.symm, next_is_new F⟩
    · exact News.grown N hk p hp
  · exact absurd (Heap.lt_size (N p hp).1) (e ▸ Nat.lt_irrefl _)
end
theorem rsize2 {n : Nat} (h : n ≠ 0) : Builtin.Range.rangeSize 2 (2 * ((n : Int) + 1)) 2 = (n : Int) := by
  unfold Builtin.Range.rangeSize
  rw [if_pos (by decide), if_pos (by (first | lia | omega))]; (first | lia | omega)
theorem rsmall2 {n : Nat} (h0 : n ≠ 0) (h : n ≤ 1000) : Builtin.Range.small 2 (2 * ((n : Int) + 1)) 2 = true := by
  unfold Builtin.Range.small Builtin.Range.rangeFitsLong
  rw [rsize2 h0]
  simp
  (first | lia | omega)
theorem row0_eq (n : Nat) : ((List.range n).map fun (i : Nat) => (2 : Int) + i * 2) = row0 n := by
  unfold row0
  apply List.map_congr_left
  intro i _; (first | lia | omega)
theorem row0_len (n : Nat) : (row0 n).length = n := by unfold row0; simp
end
-- WF6
section
local macro_rules | `(tactic| walk_at "unpackItems ref") => `(tactic| ((rename Fr _ _ _ _ => F'); (rename News _ _ _ _ => N'); (rename _ = none => hh'); (with_unfolding_all refine unpackItemsN_ F' N' ⟨_, (N' _ (.head _)).1, rfl, _, rfl⟩ hh' (by rfl) ?_); (clear F' N'); intro _ _ _))
set_option maxHeartbeats 4000000 in
theorem lev_c0 {w : World} {s : Shared} {A : Around} {Q : Value → Shared → Prop} {E : Value → Shared → Prop} {x y : PySem.Str} {a b : List Nat} {t u v : Tok} (g : GF w s.heap) (hA : A.depth ≤ 410) (hU : A.units ≤ 90) (hh : A.handled = none) (hx : x = sL a) (hy : y = sL b) (hl : x.length ≤ 25) (hl2 : y.length ≤ 25)
    (ret : ∀ t' h' tk', Kp s.heap h' → Q (.int (levS a b) t') { s with heap := h', toks := tk' }) :
    wpAny (model pw w) A (call (.ref 177) [.str x t, .str y u, .int 2 v]) Q E s := by
  obtain ⟨o, ho, hd, hcd⟩ := fn_at g (k_levenshteindistance _) (c_levenshteindistance _)
  obtain ⟨s₀, mg, mb, T, GL, KX⟩ := g.open
  conv at hd => pattern fdB 25; whnf
  conv at hd => pattern fdP 25; whnf
  conv at hd => pattern fdS 25; whnf
  refine wpAny_call (call_pos_ret (Nat.lt_of_le_of_lt hA (by decide)) ho hd GL.nolimit hcd (by rfl) (locs (by rfl)) (fun h₁ F => ?_))
  clear hd ho hcd
  dsimp only [List.map, List.zip, List.zipWith]
  have N := News.nil (h₀ := s.heap) (h := h₁) (L := s.heap.objs.size)
  w_on
  repeat' (first | wrow_close | ((with_reducible show wpAny _ _ (call (Value.type "list") _) _ _ _); first | with_reducible (((rename IsRange _ _ _ _ _ _ _ _ => R'); (rename Fr _ _ _ _ => Fz'); (rename News _ _ _ _ => Nz'); (rename _ = none => hh'); (with_unfolding_all refine list_range_led hh' Fz' Nz' R' (rsmall2 (by (first | lia | omega)) (by (first | lia | omega))) (rsize2 (by (first | lia | omega))) (by (first | lia | omega)) ?_); (clear Fz' Nz'); intro _ _ _ _ _ _ _ _ _)) | (((rename IsRange _ _ _ _ _ _ _ _ => R'); (rename Fr _ _ _ _ => Fz'); (rename News _ _ _ _ => Nz'); (rename _ = none => hh'); (with_unfolding_all refine list_range_led hh' Fz' Nz' R' (rsmall2 (by (first | lia | omega)) (by (first | lia | omega))) (rsize2 (by (first | lia | omega))) (by (first | lia | omega)) ?_); (clear Fz' Nz'); intro _ _ _ _ _ _ _ _ _))) | walk1 | (dsimp only; walk1) | (leave1; walk_say "STEP leave1"; try dsimp only at *) | fail "no step")
  all_goals (try dsimp only)
  · exact int_end ret (by assumption) (lev_same hx hy (by assumption))
  refine Halt.on ?_
  have hne := lev_ne hx hy (by assumption)
  rename Fr _ _ _ _ => Fe
  rename News _ _ _ _ => Ne
  obtain ⟨M, hM, FM⟩ := Fr.pack Fe
  have f_a : (∃ tt, M (PySem.Str.ofString "a") = some (.str x tt)) := by rw [hM]; exact ⟨_, rfl⟩
  have f_b : (∃ tt, M (PySem.Str.ofString "b") = some (.str y tt)) := by rw [hM]; exact ⟨_, rfl⟩
  have f_max_cost : (∃ tt, M (PySem.Str.ofString "max_cost") = some (.int 2 tt)) := by rw [hM]; exact ⟨_, rfl⟩
  have f_pre : (∃ tt, M (PySem.Str.ofString "pre") = some (.int 0 tt)) := by rw [hM]; exact ⟨_, rfl⟩
  clear hM
  obtain ⟨_, f_a⟩ := f_a
  obtain ⟨_, f_b⟩ := f_b
  obtain ⟨_, f_max_cost⟩ := f_max_cost
  obtain ⟨_, f_pre⟩ := f_pre

  clear Fe
  refine lev_while1 (s := ⟨_, _, _, _, _⟩) (L := s.heap.objs.size) T GL KX FM Ne (Nat.le_trans hA (by decide)) (Nat.le_trans hU (by decide)) hh hx hy hl hl2 f_a f_b f_max_cost f_pre ?_
  clear FM Ne f_a f_b f_max_cost f_pre M
  rintro h tk M p ta tb tc tp Fe Ne hp1 hp2 f_a f_b f_max_cost f_pre hs1
  have hd1 : Txt.slice x (some (p : Int)) none = sL (a.drop p) := by rw [hx]; exact slice_from a p (by rw [hx, sL_len] at hp1; exact hp1)
  have hd2 : Txt.slice y (some (p : Int)) none = sL (b.drop p) := by rw [hy]; exact slice_from b p (by rw [hy, sL_len] at hp2; exact hp2)
  have hz1 : (sL (a.drop p)).length ≤ 25 := by rw [hx, sL_len] at hl; rw [sL_len, List.length_drop]; (first | lia | omega)
  have hz2 : (sL (b.drop p)).length ≤ 25 := by rw [hy, sL_len] at hl2; rw [sL_len, List.length_drop]; (first | lia | omega)
  dsimp only
  repeat' (first | wrow_close | ((with_reducible show wpAny _ _ (call (Value.type "list") _) _ _ _); first | with_reducible (((rename IsRange _ _ _ _ _ _ _ _ => R'); (rename Fr _ _ _ _ => Fz'); (rename News _ _ _ _ => Nz'); (rename _ = none => hh'); (with_unfolding_all refine list_range_led hh' Fz' Nz' R' (rsmall2 (by (first | lia | omega)) (by (first | lia | omega))) (rsize2 (by (first | lia | omega))) (by (first | lia | omega)) ?_); (clear Fz' Nz'); intro _ _ _ _ _ _ _ _ _)) | (((rename IsRange _ _ _ _ _ _ _ _ => R'); (rename Fr _ _ _ _ => Fz'); (rename News _ _ _ _ => Nz'); (rename _ = none => hh'); (with_unfolding_all refine list_range_led hh' Fz' Nz' R' (rsmall2 (by (first | lia | omega)) (by (first | lia | omega))) (rsize2 (by (first | lia | omega))) (by (first | lia | omega)) ?_); (clear Fz' Nz'); intro _ _ _ _ _ _ _ _ _))) | walk1 | (dsimp only; walk1) | (leave1; walk_say "STEP leave1"; try dsimp only at *) | fail "no step")
  refine Halt.on ?_
  rename Fr _ _ _ _ => Fe
  rename News _ _ _ _ => Ne
  rw [hd1, hd2] at Fe
  obtain ⟨M2, hM, FM⟩ := Fr.pack Fe
  clear hd1 hd2 Fe f_a f_b f_pre
  have f_a : (∃ tt, M2 (PySem.Str.ofString "a") = some (.str (sL (a.drop p)) tt)) := by rw [hM]; exact ⟨_, rfl⟩
  have f_b : (∃ tt, M2 (PySem.Str.ofString "b") = some (.str (sL (b.drop p)) tt)) := by rw [hM]; exact ⟨_, rfl⟩
  have f_max_cost : (∃ tt, M2 (PySem.Str.ofString "max_cost") = some (.int 2 tt)) := by rw [hM]; exact ⟨_, f_max_cost⟩
  have f_post : (∃ tt, M2 (PySem.Str.ofString "post") = some (.int 0 tt)) := by rw [hM]; exact ⟨_, rfl⟩
  clear hM
  obtain ⟨_, f_a⟩ := f_a
  obtain ⟨_, f_b⟩ := f_b
  obtain ⟨_, f_max_cost⟩ := f_max_cost
  obtain ⟨_, f_post⟩ := f_post

  refine lev_while2 (s := ⟨_, _, _, _, _⟩) (L := s.heap.objs.size) (a := a.drop p) (b := b.drop p) T GL KX FM Ne (Nat.le_trans hA (by decide)) (Nat.le_trans hU (by decide)) hh rfl rfl hz1 hz2 f_a f_b f_max_cost f_post ?_
  clear FM Ne f_a f_b f_max_cost f_post M2
  rintro h tk M2 q ta2 tb2 tc2 tp2 Fe Ne hq1 hq2 f_a f_b f_max_cost f_post hs2
  have hcore := lev_core hne hs1 hs2
  rw [hcore] at ret
  dsimp only
  refine wpAny_execs_cons ?_
  refine lev_sufA (s := ⟨_, _, _, _, _⟩) (L := s.heap.objs.size) T GL KX g Fe Ne hA hU hh rfl hz1 hq1 f_a f_post ?_
  rintro h tk t' Fa Na
  dsimp only
  refine wpAny_execs_cons ?_
  refine lev_sufB (s := ⟨_, _, _, _, _⟩) (L := s.heap.objs.size) T GL KX g Fa Na hA hU hh rfl hz2 hq2 f_b f_post ?_
  rintro h tk t'' Fb Nb
  dsimp only
  obtain ⟨M3, hM, FM⟩ := Fr.pack Fb
  have k_a : (∃ tt, M3 (PySem.Str.ofString "a") = some (.str (sL ((a.drop p).take ((a.drop p).length - q))) tt)) := by rw [hM]; exact ⟨_, rfl⟩
  have k_b : (∃ tt, M3 (PySem.Str.ofString "b") = some (.str (sL ((b.drop p).take ((b.drop p).length - q))) tt)) := by rw [hM]; exact ⟨_, rfl⟩
  have k_max_cost : (∃ tt, M3 (PySem.Str.ofString "max_cost") = some (.int 2 tt)) := by rw [hM]; exact ⟨_, f_max_cost⟩
  clear hM
  obtain ⟨_, k_a⟩ := k_a
  obtain ⟨_, k_b⟩ := k_b
  obtain ⟨_, k_max_cost⟩ := k_max_cost

  have hz3 : (sL ((a.drop p).take ((a.drop p).length - q))).length ≤ 25 := by rw [sL_len] at hz1 ⊢; rw [List.length_take]; (first | lia | omega)
  have hz4 : (sL ((b.drop p).take ((b.drop p).length - q))).length ≤ 25 := by rw [sL_len] at hz2 ⊢; rw [List.length_take]; (first | lia | omega)
  clear Fa Na Fb Fe Ne f_a f_b f_max_cost f_post M2 hcore hs1 hs2 hq1 hq2 hz1 hz2 hp1 hp2 hl hl2 hx hy hne
  generalize hx3 : sL ((a.drop p).take ((a.drop p).length - q)) = x3 at *
  generalize hy3 : sL ((b.drop p).take ((b.drop p).length - q)) = y3 at *
  generalize (a.drop p).take ((a.drop p).length - q) = a3 at *
  generalize (b.drop p).take ((b.drop p).length - q) = b3 at *
  repeat' (first | wrow_close | ((with_reducible show wpAny _ _ (call (Value.type "list") _) _ _ _); first | with_reducible (((rename IsRange _ _ _ _ _ _ _ _ => R'); (rename Fr _ _ _ _ => Fz'); (rename News _ _ _ _ => Nz'); (rename _ = none => hh'); (with_unfolding_all refine list_range_led hh' Fz' Nz' R' (rsmall2 (by (first | lia | omega)) (by (first | lia | omega))) (rsize2 (by (first | lia | omega))) (by (first | lia | omega)) ?_); (clear Fz' Nz'); intro _ _ _ _ _ _ _ _ _)) | (((rename IsRange _ _ _ _ _ _ _ _ => R'); (rename Fr _ _ _ _ => Fz'); (rename News _ _ _ _ => Nz'); (rename _ = none => hh'); (with_unfolding_all refine list_range_led hh' Fz' Nz' R' (rsmall2 (by (first | lia | omega)) (by (first | lia | omega))) (rsize2 (by (first | lia | omega))) (by (first | lia | omega)) ?_); (clear Fz' Nz'); intro _ _ _ _ _ _ _ _ _))) | walk1 | (dsimp only; walk1) | (leave1; walk_say "STEP leave1"; try dsimp only at *) | fail "no step")
  all_goals (try dsimp only)
  · exact int_end ret (by assumption) (by rw [core_lt hx3 hy3 (by (first | lia | omega)) (by (first | lia | omega)) (by (first | lia | omega)), dp_far hy3 hx3 (by (first | lia | omega))]; rfl)
  · refine Halt.on ?_
    have hcore := core_lt hx3 hy3 (by (first | lia | omega)) (by (first | lia | omega)) (by (first | lia | omega))
    rw [hcore, dp_near hy3 hx3 (by (first | lia | omega))] at ret
    rename IntsAre _ _ => hv
    rename Fr _ _ _ _ => Fe
    rename News _ _ _ _ => Ne
    have hlen : y3.length = b3.length := by rw [← hy3, sL_len]
    rw [row0_eq, hlen] at hv
    obtain ⟨M4, hM, FM4⟩ := Fr.pack Fe
    have e_a : (∃ tt, M4 (PySem.Str.ofString "a") = some (.str y3 tt)) := by rw [hM]; first | exact ⟨_, rfl⟩ | exact ⟨_, k_a⟩
    have e_b : (∃ tt, M4 (PySem.Str.ofString "b") = some (.str x3 tt)) := by rw [hM]; first | exact ⟨_, rfl⟩ | exact ⟨_, k_b⟩
    have e_mc : (∃ tt, M4 (PySem.Str.ofString "max_cost") = some (.int 2 tt)) := by rw [hM]; exact ⟨_, k_max_cost⟩
    have e_r : (∃ tt, M4 (PySem.Str.ofString "result") = some (.int 0 tt)) := by rw [hM]; exact ⟨_, rfl⟩
    obtain ⟨_, e_a⟩ := e_a
    obtain ⟨_, e_b⟩ := e_b
    obtain ⟨_, e_mc⟩ := e_mc
    obtain ⟨_, e_r⟩ := e_r
    refine lev_outer (s := ⟨_, _, _, _, _⟩) (L := s.heap.objs.size) (row₀ := row0 b3.length) T GL KX g FM4 (fun p hp => Ne p (by rw [List.mem_singleton.mp hp]; exact .head _)) hA hU (by assumption) hy3 hx3 (by (first | lia | omega)) (by (first | lia | omega)) (by rw [row0_len]; exact hlen.symm) hv e_a e_b (by rw [hM]; rfl) e_mc e_r ?_ ?_
    · clear Fe Ne FM4 e_a e_b e_mc e_r hM
      rintro h tk m' tr Fe mr
      dsimp only
      have N := News.nil (h₀ := s.heap) (h := h) (L := s.heap.objs.size)
      repeat' (first | wrow_close | ((with_reducible show wpAny _ _ (call (Value.type "list") _) _ _ _); first | with_reducible (((rename IsRange _ _ _ _ _ _ _ _ => R'); (rename Fr _ _ _ _ => Fz'); (rename News _ _ _ _ => Nz'); (rename _ = none => hh'); (with_unfolding_all refine list_range_led hh' Fz' Nz' R' (rsmall2 (by (first | lia | omega)) (by (first | lia | omega))) (rsize2 (by (first | lia | omega))) (by (first | lia | omega)) ?_); (clear Fz' Nz'); intro _ _ _ _ _ _ _ _ _)) | (((rename IsRange _ _ _ _ _ _ _ _ => R'); (rename Fr _ _ _ _ => Fz'); (rename News _ _ _ _ => Nz'); (rename _ = none => hh'); (with_unfolding_all refine list_range_led hh' Fz' Nz' R' (rsmall2 (by (first | lia | omega)) (by (first | lia | omega))) (rsize2 (by (first | lia | omega))) (by (first | lia | omega)) ?_); (clear Fz' Nz'); intro _ _ _ _ _ _ _ _ _))) | walk1 | (dsimp only; walk1) | (leave1; walk_say "STEP leave1"; try dsimp only at *) | fail "no step")
      all_goals (try dsimp only)
      exact int_end ret (by assumption) rfl
    · rintro h tk t3 k3 e3
      rw [e3] at ret
      exact ret _ _ _ k3
  · exact int_end ret (by assumption) (by rw [core_ge hx3 hy3 (by (first | lia | omega)) (by (first | lia | omega)) (by (first | lia | omega)), dp_far hx3 hy3 (by (first | lia | omega))]; rfl)
  · refine Halt.on ?_
    have hcore := core_ge hx3 hy3 (by (first | lia | omega)) (by (first | lia | omega)) (by (first | lia | omega))
    rw [hcore, dp_near hx3 hy3 (by (first | lia | omega))] at ret
    rename IntsAre _ _ => hv
    rename Fr _ _ _ _ => Fe
    rename News _ _ _ _ => Ne
    have hlen : x3.length = a3.length := by rw [← hx3, sL_len]
    rw [row0_eq, hlen] at hv
    obtain ⟨M4, hM, FM4⟩ := Fr.pack Fe
    have e_a : (∃ tt, M4 (PySem.Str.ofString "a") = some (.str x3 tt)) := by rw [hM]; first | exact ⟨_, rfl⟩ | exact ⟨_, k_a⟩
    have e_b : (∃ tt, M4 (PySem.Str.ofString "b") = some (.str y3 tt)) := by rw [hM]; first | exact ⟨_, rfl⟩ | exact ⟨_, k_b⟩
    have e_mc : (∃ tt, M4 (PySem.Str.ofString "max_cost") = some (.int 2 tt)) := by rw [hM]; exact ⟨_, k_max_cost⟩
    have e_r : (∃ tt, M4 (PySem.Str.ofString "result") = some (.int 0 tt)) := by rw [hM]; exact ⟨_, rfl⟩
    obtain ⟨_, e_a⟩ := e_a
    obtain ⟨_, e_b⟩ := e_b
    obtain ⟨_, e_mc⟩ := e_mc
    obtain ⟨_, e_r⟩ := e_r
    refine lev_outer (s := ⟨_, _, _, _, _⟩) (L := s.heap.objs.size) (row₀ := row0 a3.length) T GL KX g FM4 (fun p hp => Ne p (by rw [List.mem_singleton.mp hp]; exact .head _)) hA hU (by assumption) hx3 hy3 (by (first | lia | omega)) (by (first | lia | omega)) (by rw [row0_len]; exact hlen.symm) hv e_a e_b (by rw [hM]; rfl) e_mc e_r ?_ ?_
    · clear Fe Ne FM4 e_a e_b e_mc e_r hM
      rintro h tk m' tr Fe mr
      dsimp only
      have N := News.nil (h₀ := s.heap) (h := h) (L := s.heap.objs.size)
      repeat' (first | wrow_close | ((with_reducible show wpAny _ _ (call (Value.type "list") _) _ _ _); first | with_reducible (((rename IsRange _ _ _ _ _ _ _ _ => R'); (rename Fr _ _ _ _ => Fz'); (rename News _ _ _ _ => Nz'); (rename _ = none => hh'); (with_unfolding_all refine list_range_led hh' Fz' Nz' R' (rsmall2 (by (first | lia | omega)) (by (first | lia | omega))) (rsize2 (by (first | lia | omega))) (by (first | lia | omega)) ?_); (clear Fz' Nz'); intro _ _ _ _ _ _ _ _ _)) | (((rename IsRange _ _ _ _ _ _ _ _ => R'); (rename Fr _ _ _ _ => Fz'); (rename News _ _ _ _ => Nz'); (rename _ = none => hh'); (with_unfolding_all refine list_range_led hh' Fz' Nz' R' (rsmall2 (by (first | lia | omega)) (by (first | lia | omega))) (rsize2 (by (first | lia | omega))) (by (first | lia | omega)) ?_); (clear Fz' Nz'); intro _ _ _ _ _ _ _ _ _))) | walk1 | (dsimp only; walk1) | (leave1; walk_say "STEP leave1"; try dsimp only at *) | fail "no step")
      all_goals (try dsimp only)
      exact int_end ret (by assumption) rfl
    · rintro h tk t3 k3 e3
      rw [e3] at ret
      exact ret _ _ _ k3
  · exact int_end ret (by assumption) (by rw [core_nil hx3 hy3 (by (first | lia | omega))])
  · exact int_end ret (by assumption) (by rw [core_nil hx3 hy3 (by (first | lia | omega))])
end
-- WN
section
theorem lev_c {w : World} {s : Shared} {A : Around} {Q : Value → Shared → Prop} {E : Value → Shared → Prop} {a b : List Nat} {t u v : Tok} (g : GF w s.heap) (hA : A.depth ≤ 410) (hU : A.units ≤ 90) (hh : A.handled = none) (hl : a.length ≤ 25) (hl2 : b.length ≤ 25)
    (ret : ∀ t' h' tk', Kp s.heap h' → Q (.int (levS a b) t') { s with heap := h', toks := tk' }) :
    wpAny (model pw w) A (call (.ref 177) [.str (sL a) t, .str (sL b) u, .int 2 v]) Q E s :=
  lev_c0 g hA hU hh rfl rfl (by rw [sL_len]; exact hl) (by rw [sL_len]; exact hl2) ret
section
variable {prog : Program} {w : World} {A : Around} {E : Value → Shared → Prop} {s : Shared} {h₀ : Heap} {L : Addr} {m : Str → Option Value}
theorem push_led {news : List (Addr × Obj)} (F : Fr h₀ L s.heap m) (N : News h₀ L s.heap news) (o : Obj) (ho : o.isFreed = false) :
    Fr h₀ L (s.heap.push o) m ∧ News h₀ L (s.heap.push o) ((s.heap.objs.size, o) :: news) ∧ ∀ p ∈ news, p.1 ≠ s.heap.objs.size := by
  have hLI : L ≠ s.heap.objs.size := fun e => by have := F.ns.lt; rw [e] at this; exact Nat.lt_irrefl _ this
  refine ⟨F.push _, fun p hp => ?_, fun p hp e => absurd (Heap.lt_size (N p hp).1) (e ▸ Nat.lt_irrefl _)⟩
  rcases List.mem_cons.mp hp with rfl | hp
  · exact ⟨Heap.get?_push_size _ ho, hLI.symm, next_is_new F⟩
  · exact ⟨Heap.get?_push_of_some _ (N p hp).1, (N p hp).2⟩
theorem add_led {D1 D2 : Addr} {xs ys : Array Value} {n k : Nat} {news : List (Addr × Obj)} {Q : Value → Shared → Prop} (F : Fr h₀ L s.heap m) (N : News h₀ L s.heap news)
    (h1 : s.heap.get? D1 = some { cls := .type "list", data := .seq xs n }) (h2 : s.heap.get? D2 = some { cls := .type "list", data := .seq ys k }) (hsz : xs.size + ys.size ≤ sizeLine)
    (h : ∀ D h', Fr h₀ L h' m → News h₀ L h' ((D, { cls := .type "list", data := .seq (xs ++ ys) }) :: news) → (∀ p ∈ news, p.1 ≠ D) → Q (.ref D) { s with heap := h' }) :
    wpAny (model prog w) A (binaryOp .Add (.ref D1) (.ref D2)) Q E s := by
  obtain ⟨a, b, c⟩ := push_led F N { cls := .type "list", data := .seq (xs ++ ys) } rfl
  exact P.add_list (hsz := hsz) h1 h2 (h _ _ a b c)
end
theorem size_sum {xs ys : Array Value} {ms : List Int} (hx : xs.size ≤ 1000) (h : IntsAre ys.toList ms) (hm : ms.length ≤ 1000) : xs.size + ys.size ≤ sizeLine := by
  have := ints_len h
  rw [Array.length_toList] at this
  exact Nat.le_trans (by (first | lia | omega) : xs.size + ys.size ≤ 2000) (by decide)
theorem cint {M : Model} {A : Around} {E : Value → Shared → Prop} {i : Int} {k : Nat} {pos : Pos} {env : Env} {h : Heap} {g d o : _} {tk : Nat} {Q : Value → Shared → Prop} (q : Q (.int i tk) (Shared.mk h g d (tk + 1) o)) :
    wpAny M A (eval (.Constant (.int i) k pos) env) Q E (Shared.mk h g d tk o) := wpAny_Constant_int q
end
section
local macro_rules | `(tactic| walk_at "eval Constant int") => `(tactic| refine cint ?_)
-- WJ2
section
local macro_rules | `(tactic| walk_at "binaryOp FloorDiv int int") => `(tactic| ((with_reducible show wpAny _ _ (binaryOp _ _ (Value.int (HPow.hPow _ _) _)) _ _ _); with_unfolding_all refine PyProof.Rows.floordiv_int (by assumption) ?_ (Or.inl (by assumption))))
set_option maxHeartbeats 4000000 in
theorem typ_form {w : World} {s s₀ : Shared} {A : Around} {Q : Flow → Shared → Prop} {h₀ : Heap} {L : Addr} {news0 : List (Addr × Obj)} {mg mb m : PySem.Str → Option Value} {k seed : Nat} {tk ts : Tok} (T : Top qv (looseW qv looseX) (ExcName.means s₀.heap) mg mb h₀) (GL : GLt mg mb h₀) (KX : (kF w.params).In h₀) (g : GF w h₀)
    (F : Fr h₀ L s.heap m) (N : News h₀ L s.heap news0) (hA : A.depth ≤ 410) (hU : A.units ≤ 90) (hh : A.handled = none) (hs : seed < 1000000) (hk : k ≤ 100) (mk : m (PySem.Str.ofString "k") = some (.int (k : Int) tk)) (ms : m (PySem.Str.ofString "seed") = some (.int (seed : Int) ts))
    (rest : ∀ h tk t', Fr h₀ L h (fun y => if y = (PySem.Str.ofString "form") then some (.int (formOf k seed : Int) t') else m y) → News h₀ L h news0 → Q .next { s with heap := h, toks := tk }) :
    wpAny (model pw w) (A.deeper (envOf (PySem.Str.ofString "_law_typed") (fdS 29) L 198 (Value.ref 197))) (exec ((stBody ((fdB 29).getD 3 dStmt)).getD 0 dStmt) (envOf (PySem.Str.ofString "_law_typed") (fdS 29) L 198 (Value.ref 197))) Q (fun _ _ => False) s := by
  conv => pattern List.getD (stBody ((fdB 29).getD 3 dStmt)) _ _; whnf
  conv => pattern (occs := *) fdS 29; all_goals whnf
  w_on
  have hpl := pow_pylong k seed
  have hp0 : (12 : Int) ^ ((k : Int).fmod 5).toNat ≠ 0 := Int.pow_ne_zero (by decide)
  repeat' (first | wrow_close | ((with_reducible show wpAny _ _ (subscriptTail (Expr.Name _ _) (Expr.BinOp _ _ _ _) (Value.ref _) (Value.int _ _)) _ _ _); first | with_reducible (((rename Fr _ _ _ _ => Fz'); (rename News _ _ _ _ => Nz'); (first | (with_unfolding_all refine item_led (News.get Nz' (by assumption)) (by (first | lia | omega)) (by (first | lia | omega)) (by assumption) ?_) | (rename _ = ((_ : Nat) : Int) => e9'; (with_unfolding_all refine item_led (News.get Nz' (by assumption)) (by rw [e9']; (first | lia | omega)) (by rw [e9']; (first | lia | omega)) (by assumption) ?_))))) | (((rename Fr _ _ _ _ => Fz'); (rename News _ _ _ _ => Nz'); (first | (with_unfolding_all refine item_led (News.get Nz' (by assumption)) (by (first | lia | omega)) (by (first | lia | omega)) (by assumption) ?_) | (rename _ = ((_ : Nat) : Int) => e9'; (with_unfolding_all refine item_led (News.get Nz' (by assumption)) (by rw [e9']; (first | lia | omega)) (by rw [e9']; (first | lia | omega)) (by assumption) ?_)))))) | walk1 | (dsimp only; walk1) | (leave1; walk_say "STEP leave1"; try dsimp only at *) | fail "no step")
  rename Fr _ _ _ _ => Fe
  rename News _ _ _ _ => Ne
  rw [form_eq] at Fe
  exact rest _ _ _ Fe Ne
set_option maxHeartbeats 4000000 in
theorem typ_code {w : World} {s s₀ : Shared} {A : Around} {Q : Flow → Shared → Prop} {h₀ : Heap} {L : Addr} {news0 : List (Addr × Obj)} {mg mb m : PySem.Str → Option Value} {x : PySem.Str} {l : List Nat} {k : Nat} {tk ts : Tok} (T : Top qv (looseW qv looseX) (ExcName.means s₀.heap) mg mb h₀) (GL : GLt mg mb h₀) (KX : (kF w.params).In h₀) (g : GF w h₀)
    (F : Fr h₀ L s.heap m) (N : News h₀ L s.heap news0) (hA : A.depth ≤ 410) (hU : A.units ≤ 90) (hh : A.handled = none) (hx : sL l = x) (hl : x.length ≤ 100) (hk : k < x.length) (mk : m (PySem.Str.ofString "k") = some (.int (k : Int) tk)) (ms : m (PySem.Str.ofString "text") = some (.str x ts))
    (rest : ∀ h tk t', Fr h₀ L h (fun y => if y = (PySem.Str.ofString "code") then some (.int (l.getD k 0 : Int) t') else m y) → News h₀ L h news0 → Q .next { s with heap := h, toks := tk }) :
    wpAny (model pw w) (A.deeper (envOf (PySem.Str.ofString "_law_typed") (fdS 29) L 198 (Value.ref 197))) (exec ((stBody ((fdB 29).getD 3 dStmt)).getD 1 dStmt) (envOf (PySem.Str.ofString "_law_typed") (fdS 29) L 198 (Value.ref 197))) Q (fun _ _ => False) s := by
  conv => pattern List.getD (stBody ((fdB 29).getD 3 dStmt)) _ _; whnf
  conv => pattern (occs := *) fdS 29; all_goals whnf
  w_on
  repeat' (first | wrow_close | ((with_reducible show wpAny _ _ (subscriptTail (Expr.Name _ _) (Expr.BinOp _ _ _ _) (Value.ref _) (Value.int _ _)) _ _ _); first | with_reducible (((rename Fr _ _ _ _ => Fz'); (rename News _ _ _ _ => Nz'); (first | (with_unfolding_all refine item_led (News.get Nz' (by assumption)) (by (first | lia | omega)) (by (first | lia | omega)) (by assumption) ?_) | (rename _ = ((_ : Nat) : Int) => e9'; (with_unfolding_all refine item_led (News.get Nz' (by assumption)) (by rw [e9']; (first | lia | omega)) (by rw [e9']; (first | lia | omega)) (by assumption) ?_))))) | (((rename Fr _ _ _ _ => Fz'); (rename News _ _ _ _ => Nz'); (first | (with_unfolding_all refine item_led (News.get Nz' (by assumption)) (by (first | lia | omega)) (by (first | lia | omega)) (by assumption) ?_) | (rename _ = ((_ : Nat) : Int) => e9'; (with_unfolding_all refine item_led (News.get Nz' (by assumption)) (by rw [e9']; (first | lia | omega)) (by rw [e9']; (first | lia | omega)) (by assumption) ?_)))))) | walk1 | (dsimp only; walk1) | (leave1; walk_say "STEP leave1"; try dsimp only at *) | fail "no step")
  rename Fr _ _ _ _ => Fe
  rename News _ _ _ _ => Ne
  rw [item_char hx hk] at Fe
  exact rest _ _ _ Fe Ne
set_option maxHeartbeats 4000000 in
theorem typ_sign {w : World} {s s₀ : Shared} {A : Around} {Q : Flow → Shared → Prop} {h₀ : Heap} {L : Addr} {news0 : List (Addr × Obj)} {mg mb m : PySem.Str → Option Value} {x S0 : PySem.Str} {l : List Nat} {k seed : Nat} {tk ts tf tm tc tg : Tok} {vsF : Array Value} {cF : Nat} {Fa : Addr} (T : Top qv (looseW qv looseX) (ExcName.means s₀.heap) mg mb h₀) (GL : GLt mg mb h₀) (KX : (kF w.params).In h₀) (g : GF w h₀)
    (F : Fr h₀ L s.heap m) (N : News h₀ L s.heap news0) (hA : A.depth ≤ 410) (hU : A.units ≤ 90) (hh : A.handled = none) (hx : sL l = x) (hl : x.length ≤ 100) (hk : k < x.length) (hs : seed < 1000000) (hS : S0.length ≤ 300) (hF : vsF[((formOf k seed : Int) - 2).toNat]? = some (.int (firstsL.getD (formOf k seed - 2) 0 : Nat) tf)) (hFr : (firstsL.getD (formOf k seed - 2) 0) ≤ 120432) (hc : l.getD k 0 ≤ 200) (hm : (Fa, ({ cls := .type "list", data := .seq vsF cF } : Obj)) ∈ news0) (mk : m (PySem.Str.ofString "k") = some (.int (k : Int) tk)) (ms : m (PySem.Str.ofString "text") = some (.str x ts)) (mf : m (PySem.Str.ofString "form") = some (.int (formOf k seed : Int) tm)) (mc : m (PySem.Str.ofString "code") = some (.int (l.getD k 0 : Nat) tc)) (mg : m (PySem.Str.ofString "signs") = some (.str S0 tg)) (mF : m (PySem.Str.ofString "firsts") = some (.ref Fa))
    (rest : ∀ h tk t', Fr h₀ L h (fun y => if y = (PySem.Str.ofString "signs") then some (.str (S0 ++ sL [signOf k (l.getD k 0) seed]) t') else m y) → News h₀ L h news0 → Q .next { s with heap := h, toks := tk }) :
    wpAny (model pw w) (A.deeper (envOf (PySem.Str.ofString "_law_typed") (fdS 29) L 198 (Value.ref 197))) (exec ((stBody ((fdB 29).getD 3 dStmt)).getD 2 dStmt) (envOf (PySem.Str.ofString "_law_typed") (fdS 29) L 198 (Value.ref 197))) Q (fun _ _ => False) s := by
  conv => pattern List.getD (stBody ((fdB 29).getD 3 dStmt)) _ _; whnf
  conv => pattern (occs := *) fdS 29; all_goals whnf
  w_on
  have hflt := form_lt k seed
  repeat' (first | wrow_close | ((with_reducible show wpAny _ _ (subscriptTail (Expr.Name _ _) (Expr.BinOp _ _ _ _) (Value.ref _) (Value.int _ _)) _ _ _); first | with_reducible (((rename Fr _ _ _ _ => Fz'); (rename News _ _ _ _ => Nz'); (first | (with_unfolding_all refine item_led (News.get Nz' (by assumption)) (by (first | lia | omega)) (by (first | lia | omega)) (by assumption) ?_) | (rename _ = ((_ : Nat) : Int) => e9'; (with_unfolding_all refine item_led (News.get Nz' (by assumption)) (by rw [e9']; (first | lia | omega)) (by rw [e9']; (first | lia | omega)) (by assumption) ?_))))) | (((rename Fr _ _ _ _ => Fz'); (rename News _ _ _ _ => Nz'); (first | (with_unfolding_all refine item_led (News.get Nz' (by assumption)) (by (first | lia | omega)) (by (first | lia | omega)) (by assumption) ?_) | (rename _ = ((_ : Nat) : Int) => e9'; (with_unfolding_all refine item_led (News.get Nz' (by assumption)) (by rw [e9']; (first | lia | omega)) (by rw [e9']; (first | lia | omega)) (by assumption) ?_)))))) | walk1 | (dsimp only; walk1) | (leave1; walk_say "STEP leave1"; try dsimp only at *) | fail "no step")
  all_goals rename Fr _ _ _ _ => Fe
  all_goals rename News _ _ _ _ => Ne
  all_goals first
    | (rw [item_char hx hk, sign_0 (k := k) (seed := seed) (by (first | lia | omega))] at Fe; exact rest _ _ _ Fe Ne)
    | (rw [sign_1 (k := k) (seed := seed) (by (first | lia | omega)) (by (first | lia | omega)) (by (first | lia | omega))] at Fe; exact rest _ _ _ Fe Ne)
    | (rw [sign_2 (k := k) (seed := seed) (by (first | lia | omega)) (by (first | lia | omega)) (by (first | lia | omega)) (by (first | lia | omega))] at Fe; exact rest _ _ _ Fe Ne)
    | trace_state
set_option maxHeartbeats 4000000 in
theorem typ_extra {w : World} {s s₀ : Shared} {A : Around} {Q : Flow → Shared → Prop} {h₀ : Heap} {L : Addr} {news0 : List (Addr × Obj)} {mg mb m : PySem.Str → Option Value} {S0 : PySem.Str} {k seed : Nat} {tk ts tf tg : Tok} {vsU : Array Value} {cU : Nat} {Ua : Addr} (T : Top qv (looseW qv looseX) (ExcName.means s₀.heap) mg mb h₀) (GL : GLt mg mb h₀) (KX : (kF w.params).In h₀) (g : GF w h₀)
    (F : Fr h₀ L s.heap m) (N : News h₀ L s.heap news0) (hA : A.depth ≤ 410) (hU : A.units ≤ 90) (hh : A.handled = none) (hk : k ≤ 100) (hs : seed < 1000000) (hS : S0.length ≤ 300) (hU2 : vsU[((((seed / 3 + k) % 27 : Nat)) : Int).toNat]? = some (.int (unseenL.getD ((seed / 3 + k) % 27) 0 : Nat) tf)) (hFr : unseenL.getD ((seed / 3 + k) % 27) 0 ≤ 65279) (hm : (Ua, ({ cls := .type "list", data := .seq vsU cU } : Obj)) ∈ news0) (mk : m (PySem.Str.ofString "k") = some (.int (k : Int) tk)) (ms : m (PySem.Str.ofString "seed") = some (.int (seed : Int) ts)) (mg : m (PySem.Str.ofString "signs") = some (.str S0 tg)) (mF : m (PySem.Str.ofString "unseen") = some (.ref Ua))
    (rest : ∀ h tk M t', Fr h₀ L h M → News h₀ L h news0 → M (PySem.Str.ofString "signs") = some (.str (S0 ++ sL (extraOf k seed)) t') → (∀ q, q ≠ (PySem.Str.ofString "signs") → M q = m q) → Q .next { s with heap := h, toks := tk }) :
    wpAny (model pw w) (A.deeper (envOf (PySem.Str.ofString "_law_typed") (fdS 29) L 198 (Value.ref 197))) (exec ((stBody ((fdB 29).getD 3 dStmt)).getD 3 dStmt) (envOf (PySem.Str.ofString "_law_typed") (fdS 29) L 198 (Value.ref 197))) Q (fun _ _ => False) s := by
  conv => pattern List.getD (stBody ((fdB 29).getD 3 dStmt)) _ _; whnf
  conv => pattern (occs := *) fdS 29; all_goals whnf
  w_on
  have e1 : ((seed : Int).fdiv 3 + (k : Int)).fmod 27 = ((((seed / 3 + k) % 27 : Nat)) : Int) := unseen_ix k seed
  have e2 : ((seed : Int) + (k : Int)).fmod 3 = (((seed + k) % 3 : Nat) : Int) := extra_ix k seed
  rw [← e1] at hU2
  repeat' (first | wrow_close | ((with_reducible show wpAny _ _ (subscriptTail (Expr.Name _ _) (Expr.BinOp _ _ _ _) (Value.ref _) (Value.int _ _)) _ _ _); first | with_reducible (((rename Fr _ _ _ _ => Fz'); (rename News _ _ _ _ => Nz'); (first | (with_unfolding_all refine item_led (News.get Nz' (by assumption)) (by (first | lia | omega)) (by (first | lia | omega)) (by assumption) ?_) | (rename _ = ((_ : Nat) : Int) => e9'; (with_unfolding_all refine item_led (News.get Nz' (by assumption)) (by rw [e9']; (first | lia | omega)) (by rw [e9']; (first | lia | omega)) (by assumption) ?_))))) | (((rename Fr _ _ _ _ => Fz'); (rename News _ _ _ _ => Nz'); (first | (with_unfolding_all refine item_led (News.get Nz' (by assumption)) (by (first | lia | omega)) (by (first | lia | omega)) (by assumption) ?_) | (rename _ = ((_ : Nat) : Int) => e9'; (with_unfolding_all refine item_led (News.get Nz' (by assumption)) (by rw [e9']; (first | lia | omega)) (by rw [e9']; (first | lia | omega)) (by assumption) ?_)))))) | walk1 | (dsimp only; walk1) | (leave1; walk_say "STEP leave1"; try dsimp only at *) | fail "no step")
  all_goals rename Fr _ _ _ _ => Fe
  all_goals rename News _ _ _ _ => Ne
  · rename Int.fmod _ 3 = 0 => hz
    rw [extra_1 hz] at Fe
    exact rest _ _ _ _ Fe Ne rfl (fun q hq => if_neg hq)
  · rename Int.fmod _ 3 ≠ 0 => hz
    exact rest _ _ _ _ Fe Ne (by rw [extra_0 hz]; exact mg) (fun q hq => rfl)
end
-- PLaw5
section
theorem ints_nat_at {l : List Value} {ns : List Nat} (h : IntsAre l (ns.map fun (n : Nat) => (n : Int))) {i : Nat} (hi : i < ns.length) : ∃ t, l[i]? = some (.int (ns.getD i 0 : Nat) t) := by
  refine ints_at h ?_
  rw [List.getElem?_map, List.getElem?_eq_getElem hi, List.getD, List.getElem?_eq_getElem hi]; rfl
theorem firsts_at {vs : Array Value} (h : IntsAre vs.toList (firstsL.map fun (n : Nat) => (n : Int))) (k seed : Nat) : ∃ t, vs[((formOf k seed : Int) - 2).toNat]? = some (.int (firstsL.getD (formOf k seed - 2) 0 : Nat) t) := by
  have hl := form_lt k seed
  have e : ((formOf k seed : Int) - 2).toNat = formOf k seed - 2 := by omega
  obtain ⟨t, ht⟩ := ints_nat_at h (i := formOf k seed - 2) (by simp only [firstsL, List.length_cons, List.length_nil]; omega)
  exact ⟨t, by rw [e, ← Array.getElem?_toList]; exact ht⟩
theorem unseen_at {vs : Array Value} (h : IntsAre vs.toList (unseenL.map fun (n : Nat) => (n : Int))) (k seed : Nat) : ∃ t, vs[((((seed / 3 + k) % 27 : Nat)) : Int).toNat]? = some (.int (unseenL.getD ((seed / 3 + k) % 27) 0 : Nat) t) := by
  have hl : (seed / 3 + k) % 27 < 27 := Nat.mod_lt _ (by decide)
  obtain ⟨t, ht⟩ := ints_nat_at h (i := (seed / 3 + k) % 27) (by simp only [unseenL, List.length_cons, List.length_nil]; omega)
  exact ⟨t, by rw [Int.toNat_natCast, ← Array.getElem?_toList]; exact ht⟩
theorem firsts_le : ∀ i, firstsL.getD i 0 ≤ 120432 := by
  intro i
  by_cases h : i < 10
  · have : ∀ j, j < 10 → firstsL.getD j 0 ≤ 120432 := by decide
    exact this i h
  · rw [List.getD, List.getElem?_eq_none (by simp only [firstsL, List.length_cons, List.length_nil]; omega)]; decide
theorem unseen_le : ∀ i, unseenL.getD i 0 ≤ 65279 := by
  intro i
  by_cases h : i < 27
  · have : ∀ j, j < 27 → unseenL.getD j 0 ≤ 65279 := by decide
    exact this i h
  · rw [List.getD, List.getElem?_eq_none (by simp only [unseenL, List.length_cons, List.length_nil]; omega)]; decide
theorem extra_len (k seed : Nat) : (extraOf k seed).length ≤ 1 := by unfold extraOf; split <;> simp
theorem typed_step {l acc : List Nat} {i seed : Nat} {R : List Nat} (hi : i < l.length) (h : acc ++ typedFrom i (l.drop i) seed = R) : (acc ++ [signOf i (l.getD i 0) seed] ++ extraOf i seed) ++ typedFrom (i + 1) (l.drop (i + 1)) seed = R := by
  rw [← h, drop_getD l hi, typedFrom]; simp
theorem ints_app {a b : List Value} {x y : List Int} (h : IntsAre a x) (k : IntsAre b y) : IntsAre (a ++ b) (x ++ y) := by
  induction h with
  | nil => exact k
  | cons v t _ ih => exact .cons _ _ ih
theorem unseen_ints {xs ys : Array Value} (h : IntsAre xs.toList [173, 847, 6150, 6155, 6156, 6157, 8203, 8204, 8205, 8288, 65279]) (k : IntsAre ys.toList ((List.range 16).map fun (i : Nat) => (65024 : Int) + i * 1)) : IntsAre (xs ++ ys).toList (unseenL.map fun (n : Nat) => (n : Int)) := by
  rw [Array.toList_append]
  exact ints_app h k
end
-- WJ3
section
set_option maxHeartbeats 4000000 in
theorem typ_loop {w : World} {s s₀ : Shared} {A : Around} {Q : Flow → Shared → Prop} {h₀ : Heap} {L : Addr} {news0 : List (Addr × Obj)} {mg mb m : PySem.Str → Option Value} {x : PySem.Str} {l : List Nat} {seed : Nat} {ta ts tg : Tok} {vsF vsU : Array Value} {cF cU : Nat} {Fa Ua : Addr} (T : Top qv (looseW qv looseX) (ExcName.means s₀.heap) mg mb h₀) (GL : GLt mg mb h₀) (KX : (kF w.params).In h₀) (g : GF w h₀)
    (F : Fr h₀ L s.heap m) (N : News h₀ L s.heap news0) (hA : A.depth ≤ 410) (hU : A.units ≤ 90) (hh : A.handled = none) (hx : sL l = x) (hl : x.length ≤ 100) (hs : seed < 1000000) (hc : ∀ c ∈ l, c ≤ 200) (hF : IntsAre vsF.toList (firstsL.map fun (n : Nat) => (n : Int))) (hUn : IntsAre vsU.toList (unseenL.map fun (n : Nat) => (n : Int))) (hmF : (Fa, ({ cls := .type "list", data := .seq vsF cF } : Obj)) ∈ news0) (hmU : (Ua, ({ cls := .type "list", data := .seq vsU cU } : Obj)) ∈ news0) (ma : m (PySem.Str.ofString "text") = some (.str x ta)) (ms : m (PySem.Str.ofString "seed") = some (.int (seed : Int) ts)) (mf : m (PySem.Str.ofString "firsts") = some (.ref Fa)) (mu : m (PySem.Str.ofString "unseen") = some (.ref Ua)) (mg : m (PySem.Str.ofString "signs") = some (.str (sL []) tg))
    (rest : ∀ h tk M t', Fr h₀ L h M → M (PySem.Str.ofString "signs") = some (.str (sL (typedFrom 0 l seed)) t') → Q .next { s with heap := h, toks := tk }) :
    wpAny (model pw w) (A.deeper (envOf (PySem.Str.ofString "_law_typed") (fdS 29) L 198 (Value.ref 197))) (exec ((fdB 29).getD 3 dStmt) (envOf (PySem.Str.ofString "_law_typed") (fdS 29) L 198 (Value.ref 197))) Q (fun _ _ => False) s := by
  conv => pattern List.getD (fdB 29) _ _; whnf
  conv => pattern (occs := *) fdS 29; all_goals whnf
  w_on
  with_unfolding_all refine For_at F (by rfl) (by rfl) ?_
  repeat' (first | wrow_close | ((with_reducible show wpAny _ _ (binaryOp Operator.Add (Value.ref _) (Value.ref _)) _ _ _); first | with_reducible (((rename Fr _ _ _ _ => Fz'); (rename News _ _ _ _ => Nz'); (rename IntsAre _ _ => I'); (with_unfolding_all refine add_led Fz' Nz' (News.get Nz' (.tail _ (.head _))) (News.get Nz' (.head _)) (size_sum (by exact Nat.le_of_ble_eq_true rfl) I' (by exact Nat.le_of_ble_eq_true rfl)) ?_); (clear Fz' Nz'); intro _ _ _ _ _)) | (((rename Fr _ _ _ _ => Fz'); (rename News _ _ _ _ => Nz'); (rename IntsAre _ _ => I'); (with_unfolding_all refine add_led Fz' Nz' (News.get Nz' (.tail _ (.head _))) (News.get Nz' (.head _)) (size_sum (by exact Nat.le_of_ble_eq_true rfl) I' (by exact Nat.le_of_ble_eq_true rfl)) ?_); (clear Fz' Nz'); intro _ _ _ _ _))) | ((with_reducible show wpAny _ _ (call (Value.type "list") _) _ _ _); first | with_reducible (((rename IsRange _ _ _ _ _ _ _ _ => R'); (rename Fr _ _ _ _ => Fz'); (rename News _ _ _ _ => Nz'); (rename _ = none => hh'); (with_unfolding_all refine list_range_led (n := 16) hh' Fz' Nz' R' (by decide) (by rfl) (by decide) ?_); (clear Fz' Nz'); intro _ _ _ _ _ _ _ _ _)) | (((rename IsRange _ _ _ _ _ _ _ _ => R'); (rename Fr _ _ _ _ => Fz'); (rename News _ _ _ _ => Nz'); (rename _ = none => hh'); (with_unfolding_all refine list_range_led (n := 16) hh' Fz' Nz' R' (by decide) (by rfl) (by decide) ?_); (clear Fz' Nz'); intro _ _ _ _ _ _ _ _ _))) | walk1 | (dsimp only; walk1) | (leave1; walk_say "STEP leave1"; try dsimp only at *) | fail "no step")
  dsimp only
  rename Fr _ _ _ _ => F2
  rename News _ _ _ _ => N2
  refine ForAt.range (n := x.length) (J := (fun i M news => ∃ (acc : List Nat), news = news0 ∧ (∃ tt, M (PySem.Str.ofString "text") = some (.str x tt)) ∧ (∃ tt, M (PySem.Str.ofString "seed") = some (.int (seed : Int) tt)) ∧ M (PySem.Str.ofString "firsts") = some (.ref Fa) ∧ M (PySem.Str.ofString "unseen") = some (.ref Ua) ∧ (∃ tt, M (PySem.Str.ofString "signs") = some (.str (sL acc) tt)) ∧ acc.length ≤ 2 * i ∧ acc ++ typedFrom i (l.drop i) seed = typedFrom 0 l seed)) hh (by assumption) (rsmall (by (first | lia | omega))) (rsize _) F2 N2 ⟨[], rfl, ⟨_, ma⟩, ⟨_, ms⟩, mf, mu, ⟨_, mg⟩, by simp, by simp⟩ ?_ ?_
  · clear F2 N2 rest
    rintro i t m₁ news₁ h tk I o hi ⟨acc, rfl, ⟨_, ma1⟩, ⟨_, ms1⟩, mf1, mu1, ⟨_, mg1⟩, hlen, hacc⟩ hoff F₁ N₁
    rw [show (0:Int) + (i:Int)*1 = (i:Int) by (first | lia | omega)] at F₁
    clear ma ms mf mu mg
    have hil : i < l.length := by rw [← sL_len, hx]; exact hi
    have hci : l.getD i 0 ≤ 200 := by rw [List.getD, List.getElem?_eq_getElem hil]; exact hc _ (List.getElem_mem hil)
    obtain ⟨tf, hFa⟩ := firsts_at hF i seed
    obtain ⟨tu, hUa⟩ := unseen_at hUn i seed
    refine wpAny_execs_cons ?_
    refine typ_form (s := ⟨_, _, _, _, _⟩) (L := L) T GL KX g F₁ N₁ hA hU hh hs (by (first | lia | omega)) rfl ms1 ?_
    rintro h tk t1 F₂ N₂
    dsimp only
    refine wpAny_execs_cons ?_
    refine typ_code (s := ⟨_, _, _, _, _⟩) (L := L) (tk := t) T GL KX g F₂ N₂ hA hU hh hx hl hi rfl ma1 ?_
    rintro h tk t2 F₃ N₃
    dsimp only
    refine wpAny_execs_cons ?_
    refine typ_sign (s := ⟨_, _, _, _, _⟩) (L := L) (tk := t) (tm := t1) T GL KX g F₃ N₃ hA hU hh hx hl hi hs (by rw [sL_len]; (first | lia | omega)) hFa (firsts_le _) hci (.tail _ hmF) rfl ma1 rfl rfl mg1 mf1 ?_
    rintro h tk t3 F₄ N₄
    rw [sL_app] at F₄
    dsimp only
    refine wpAny_execs_cons ?_
    refine typ_extra (s := ⟨_, _, _, _, _⟩) (L := L) (tk := t) T GL KX g F₄ N₄ hA hU hh (by (first | lia | omega)) hs (by rw [sL_len, List.length_append]; simp; (first | lia | omega)) hUa (unseen_le _) (.tail _ hmU) rfl ms1 rfl mu1 ?_
    rintro h tk M t4 F₅ N₅ hM hq
    rw [sL_app] at hM
    dsimp only
    refine wpAny_execs_nil ?_
    exact LStep.next F₅ N₅ _ (fun p hp => hp) hoff ⟨_, rfl, ⟨_, (hq _ (by decide)).trans ma1⟩, ⟨_, (hq _ (by decide)).trans ms1⟩, (hq _ (by decide)).trans mf1, (hq _ (by decide)).trans mu1, ⟨_, hM⟩, by have := extra_len i seed; simp only [List.length_append, List.length_cons, List.length_nil]; (first | lia | omega), typed_step hil hacc⟩
  · clear F2 N2
    rintro h tk m₁ news₁ F₁ N₁ ⟨acc, rfl, ⟨_, ma1⟩, ⟨_, ms1⟩, mf1, mu1, ⟨t', mg1⟩, hlen, hacc⟩
    refine wpAny_execs_nil ?_
    rw [List.drop_eq_nil_of_le (by rw [← hx, sL_len]; exact Nat.le_refl _), typedFrom, List.append_nil] at hacc
    rw [hacc] at mg1
    exact rest _ _ _ _ F₁ mg1
end
-- WJ4
section
set_option maxHeartbeats 4000000 in
theorem typed_c0 {w : World} {s : Shared} {A : Around} {Q : Value → Shared → Prop} {E : Value → Shared → Prop} {x : PySem.Str} {l : List Nat} {seed : Nat} {t u : Tok} (g : GF w s.heap) (hA : A.depth ≤ 410) (hU : A.units ≤ 90) (hh : A.handled = none) (hx : sL l = x) (hl : x.length ≤ 100) (hs : seed < 1000000) (hc : ∀ c ∈ l, c ≤ 200)
    (ret : ∀ t' h' tk', Kp s.heap h' → Q (.str (sL (typedFrom 0 l seed)) t') { s with heap := h', toks := tk' }) :
    wpAny (model pw w) A (call (.ref 198) [.str x t, .int (seed : Int) u]) Q E s := by
  obtain ⟨o, ho, hd, hcd⟩ := fn_at g (k_lawtyped _) (c_lawtyped _)
  obtain ⟨s₀, mg, mb, T, GL, KX⟩ := g.open
  conv at hd => pattern fdB 29; whnf
  conv at hd => pattern fdP 29; whnf
  conv at hd => pattern fdS 29; whnf
  refine wpAny_call (call_pos_ret (Nat.lt_of_le_of_lt hA (by decide)) ho hd GL.nolimit hcd (by rfl) (locs (by rfl)) (fun h₁ F => ?_))
  clear hd ho hcd
  dsimp only [List.map, List.zip, List.zipWith]
  have N := News.nil (h₀ := s.heap) (h := h₁) (L := s.heap.objs.size)
  w_on
  repeat' (first | wrow_close | ((with_reducible show wpAny _ _ (binaryOp Operator.Add (Value.ref _) (Value.ref _)) _ _ _); first | with_reducible (((rename Fr _ _ _ _ => Fz'); (rename News _ _ _ _ => Nz'); (rename IntsAre _ _ => I'); (with_unfolding_all refine add_led Fz' Nz' (News.get Nz' (.tail _ (.head _))) (News.get Nz' (.head _)) (size_sum (by exact Nat.le_of_ble_eq_true rfl) I' (by exact Nat.le_of_ble_eq_true rfl)) ?_); (clear Fz' Nz'); intro _ _ _ _ _)) | (((rename Fr _ _ _ _ => Fz'); (rename News _ _ _ _ => Nz'); (rename IntsAre _ _ => I'); (with_unfolding_all refine add_led Fz' Nz' (News.get Nz' (.tail _ (.head _))) (News.get Nz' (.head _)) (size_sum (by exact Nat.le_of_ble_eq_true rfl) I' (by exact Nat.le_of_ble_eq_true rfl)) ?_); (clear Fz' Nz'); intro _ _ _ _ _))) | ((with_reducible show wpAny _ _ (call (Value.type "list") _) _ _ _); first | with_reducible (((rename IsRange _ _ _ _ _ _ _ _ => R'); (rename Fr _ _ _ _ => Fz'); (rename News _ _ _ _ => Nz'); (rename _ = none => hh'); (with_unfolding_all refine list_range_led (n := 16) hh' Fz' Nz' R' (by decide) (by rfl) (by decide) ?_); (clear Fz' Nz'); intro _ _ _ _ _ _ _ _ _)) | (((rename IsRange _ _ _ _ _ _ _ _ => R'); (rename Fr _ _ _ _ => Fz'); (rename News _ _ _ _ => Nz'); (rename _ = none => hh'); (with_unfolding_all refine list_range_led (n := 16) hh' Fz' Nz' R' (by decide) (by rfl) (by decide) ?_); (clear Fz' Nz'); intro _ _ _ _ _ _ _ _ _))) | walk1 | (dsimp only; walk1) | (leave1; walk_say "STEP leave1"; try dsimp only at *) | fail "no step")
  all_goals (try dsimp only)
  refine Halt.on ?_
  rename Fr _ _ _ _ => Fe
  rename News _ _ _ _ => Ne
  rename IntsAre _ _ => hI
  obtain ⟨M, hM, FM⟩ := Fr.pack Fe
  have ma : (∃ tt, M (PySem.Str.ofString "text") = some (.str x tt)) := by rw [hM]; exact ⟨_, rfl⟩
  have ms : (∃ tt, M (PySem.Str.ofString "seed") = some (.int (seed : Int) tt)) := by rw [hM]; exact ⟨_, rfl⟩
  have mg : (∃ tt, M (PySem.Str.ofString "signs") = some (.str (sL []) tt)) := by rw [hM]; exact ⟨_, rfl⟩
  obtain ⟨_, ma⟩ := ma
  obtain ⟨_, ms⟩ := ms
  obtain ⟨_, mg⟩ := mg
  refine typ_loop (s := ⟨_, _, _, _, _⟩) (L := s.heap.objs.size) T GL KX g FM Ne hA hU (by assumption) hx hl hs hc (vsF := #[_, _, _, _, _, _, _, _, _, _]) (by repeat constructor) (unseen_ints (by repeat constructor) hI) (.tail _ (.tail _ (.tail _ (.head _)))) (.head _) ma ms (by rw [hM]; rfl) (by rw [hM]; rfl) mg ?_
  clear FM Ne Fe ma ms mg hM
  rintro h tk M' t' Fe mg
  dsimp only
  have N := News.nil (h₀ := s.heap) (h := h) (L := s.heap.objs.size)
  repeat' (first | wrow_close | ((with_reducible show wpAny _ _ (binaryOp Operator.Add (Value.ref _) (Value.ref _)) _ _ _); first | with_reducible (((rename Fr _ _ _ _ => Fz'); (rename News _ _ _ _ => Nz'); (rename IntsAre _ _ => I'); (with_unfolding_all refine add_led Fz' Nz' (News.get Nz' (.tail _ (.head _))) (News.get Nz' (.head _)) (size_sum (by exact Nat.le_of_ble_eq_true rfl) I' (by exact Nat.le_of_ble_eq_true rfl)) ?_); (clear Fz' Nz'); intro _ _ _ _ _)) | (((rename Fr _ _ _ _ => Fz'); (rename News _ _ _ _ => Nz'); (rename IntsAre _ _ => I'); (with_unfolding_all refine add_led Fz' Nz' (News.get Nz' (.tail _ (.head _))) (News.get Nz' (.head _)) (size_sum (by exact Nat.le_of_ble_eq_true rfl) I' (by exact Nat.le_of_ble_eq_true rfl)) ?_); (clear Fz' Nz'); intro _ _ _ _ _))) | ((with_reducible show wpAny _ _ (call (Value.type "list") _) _ _ _); first | with_reducible (((rename IsRange _ _ _ _ _ _ _ _ => R'); (rename Fr _ _ _ _ => Fz'); (rename News _ _ _ _ => Nz'); (rename _ = none => hh'); (with_unfolding_all refine list_range_led (n := 16) hh' Fz' Nz' R' (by decide) (by rfl) (by decide) ?_); (clear Fz' Nz'); intro _ _ _ _ _ _ _ _ _)) | (((rename IsRange _ _ _ _ _ _ _ _ => R'); (rename Fr _ _ _ _ => Fz'); (rename News _ _ _ _ => Nz'); (rename _ = none => hh'); (with_unfolding_all refine list_range_led (n := 16) hh' Fz' Nz' R' (by decide) (by rfl) (by decide) ?_); (clear Fz' Nz'); intro _ _ _ _ _ _ _ _ _))) | walk1 | (dsimp only; walk1) | (leave1; walk_say "STEP leave1"; try dsimp only at *) | fail "no step")
  all_goals (try dsimp only)
  exact str_end ret (by assumption) rfl
end
-- WQ
section
section
variable {w : World} {A : Around} {E : Value → Shared → Prop} {s : Shared} {h₀ : Heap} {L : Addr} {m : Str → Option Value} {news : List (Addr × Obj)}
theorem catl_led {a b : Addr} {xs ys : Array Value} {n k : Nat} {Q : Value → Shared → Prop} (g : GF w h₀) (F : Fr h₀ L s.heap m) (N : News h₀ L s.heap news)
    (ha : s.heap.get? a = some { cls := .type "list", data := .seq xs n }) (hb : s.heap.get? b = some { cls := .type "list", data := .seq ys k }) (hA : A.depth ≤ 420) (hU : A.units ≤ 100) (hh : A.handled = none) (hx : xs.size ≤ 10000) (hy : ys.size ≤ 10000)
    (h : ∀ D h' tk, Fr h₀ L h' m → News h₀ L h' ((D, { cls := .type "list", data := .seq (xs ++ ys) }) :: news) → (∀ p ∈ news, p.1 ≠ D) → Q (.ref D) { s with heap := h', toks := tk }) :
    wpAny (model pw w) A (call (.ref 64) [.ref a, .ref b]) Q E s := by
  refine catl_c (g.keeps F.keep) hA hU hh ha hb hx hy fun D h' tk' kp e e0 => ?_
  refine h D h' tk' (Fr.kp F kp) (fun p hp => ?_) fun p hp q => ?_
  · rcases List.mem_cons.mp hp with rfl | hp
    · refine ⟨e, fun q => ?_, fresh_old F.keep e0⟩
      have hq : D = L := q
      obtain ⟨oL, _, _, hoL, _⟩ := F.ns
      rw [hq, hoL] at e0; cases e0
    · exact News.grown N kp p hp
  · have := (N p hp).1
    rw [q, e0] at this; cases this
theorem seti_led {a : Addr} {b : Int} {u : Tok} {v : Str} {t : Tok} {xs : Array Value} {n : Nat} {p₁ : Addr × Obj} {rest : List (Addr × Obj)} {Q : Value → Shared → Prop} (g : GF w h₀) (F : Fr h₀ L s.heap m) (N : News h₀ L s.heap (p₁ :: (a, { cls := .type "list", data := .seq xs n }) :: rest))
    (h1 : p₁.1 ≠ a) (hap : ∀ p ∈ rest, p.1 ≠ a) (hA : A.depth ≤ 420) (hU : A.units ≤ 100) (hh : A.handled = none) (h0 : 0 < xs.size) (hb : b = -1)
    (h : ∀ h' tk k, Fr h₀ L h' m → News h₀ L h' (p₁ :: (a, { cls := .type "list", data := .seq (xs.setIfInBounds (xs.size - 1) (.str v t)) k }) :: rest) → Q .none { s with heap := h', toks := tk }) :
    wpAny (model pw w) A (call (.ref 92) [.ref a, .int b u, .str v t]) Q E s := by
  have hD := N _ (.tail _ (.head _))
  refine seti_c (g.keeps F.keep) hA hU hh hD.1 h0 hb fun h' tk' kp ⟨k, e⟩ => ?_
  refine h h' tk' k ⟨F.ns.at' fun o e => kp _ o (fun q => hD.2.1 q.symm) e, fun b o e => kp b o (fun q => by rw [q, hD.2.2] at e; cases e) (F.keep b o e), F.above⟩ (fun p hp => ?_)
  rcases List.mem_cons.mp hp with rfl | hp
  · exact ⟨kp _ _ h1 (N _ (.head _)).1, (N _ (.head _)).2⟩
  · rcases List.mem_cons.mp hp with rfl | hp
    · exact ⟨e, hD.2⟩
    · exact ⟨kp _ _ (hap p hp) (N _ (.tail _ (.tail _ hp))).1, (N _ (.tail _ (.tail _ hp))).2⟩
end
noncomputable def hStep (ws : List PySem.Str) (c : Nat) : List PySem.Str :=
  if inB1 (c : Int) = true then ws else if c = 32 ∨ c = 44 then ws ++ [sL []] else ws.set (ws.length - 1) (ws.getD (ws.length - 1) (sL []) ++ b3S c)
theorem strs_at : ∀ {l : List Value} {ws : List PySem.Str} (h : StrsAre l ws) {i : Nat} {x : PySem.Str}, ws[i]? = some x → ∃ t, l[i]? = some (.str x t) := by
  intro l ws h
  induction h with
  | nil => intro i x e; cases e
  | cons y t _ ih =>
    intro i x e
    cases i with
    | zero => exact ⟨t, by simp at e; subst e; rfl⟩
    | succ i => exact ih (by simpa using e)
theorem strs_set : ∀ {l : List Value} {ws : List PySem.Str} (h : StrsAre l ws) (i : Nat) (x : PySem.Str) (t : Tok), StrsAre (l.set i (.str x t)) (ws.set i x) := by
  intro l ws h
  induction h with
  | nil => intro i x t; exact .nil
  | cons y t _ ih =>
    intro i x t'
    cases i with
    | zero => exact .cons _ _ (by assumption)
    | succ i => exact .cons _ _ (ih i x t')
theorem strs_app {a b : List Value} {x y : List PySem.Str} (h : StrsAre a x) (k : StrsAre b y) : StrsAre (a ++ b) (x ++ y) := by
  induction h with
  | nil => exact k
  | cons v t _ ih => exact .cons _ _ ih
end
-- WCm
section
noncomputable def Step (s : Shared) (h : Heap) (s₂ : Shared) : Prop := ∃ h' tk', s₂ = { s with heap := h', toks := tk' } ∧ Kp h h'
theorem Step.intro {s : Shared} {h h' : Heap} {tk' : Nat} (k : Kp h h') : Step s h { s with heap := h', toks := tk' } := ⟨h', tk', rfl, k⟩
noncomputable def EltEnd (s : Shared) (h : Heap) (G : Value → Prop) (y : Value) (s₂ : Shared) : Prop := Step s h s₂ ∧ G y
theorem off3_mem {I C D : Addr} {news : List (Addr × Obj)} (o : LCg.Off3 I C D news) : ∀ p ∈ news, p.1 ≠ I ∧ p.1 ≠ C ∧ p.1 ≠ D := LCg.Off3.mem o
section
variable {prog : Program} {w : World} {A : Around} {h₀ : Heap} {L : Addr} {m : Str → Option Value} {env : Env} {elt ct : Expr} {x : Str} {scope : Scope} {cl : List (Str × Addr)} {s : Shared} {S : List (Addr × Obj) → Prop} {P : Nat → Value → Prop} {Fin : List Value → List (Addr × Obj) → Prop} {news : List (Addr × Obj)} {n : Nat}
theorem comp_rest {α : Type} (ks : List α) (V : α → Value → Prop) (G : α → Value → Prop) (hS : S news) (hlen : ks.length = n) (hP : ∀ i v, i < n → P i v → ∃ a, ks[i]? = some a ∧ V a v)
    (turn : ∀ a v I oI C oC D m₂ ys h tk (E' : Value → Shared → Prop), a ∈ ks → V a v → LCg.NsObj oC m₂ → m₂ x = some v → Fr h₀ L h m → News h₀ L h ((I, oI) :: (C, oC) :: (D, LCg.lst ys) :: news) →
      wpAny (model prog w) A (eval elt (compEnvC scope cl C env)) (EltEnd s h (G a)) E' { s with heap := h, toks := tk })
    (fin : ∀ ys, Paired G ks ys → Fin ys news) : LCg.CompRest prog w A h₀ L m env elt x scope cl s S P Fin n 0 [] news := by
  have key : ∀ (j i : Nat) (ys : List Value), i + j = n → Paired G (ks.take i) ys → LCg.CompRest prog w A h₀ L m env elt x scope cl s S P Fin j i ys news := by
    intro j
    induction j with
    | zero =>
      intro i ys hi hy
      have e : i = ks.length := by (first | lia | omega)
      subst e
      rw [List.take_length] at hy
      exact LCg.CompRest.zero (fin ys hy)
    | succ j ih =>
      intro i ys hi hy
      refine LCg.CompRest.succ ?_
      intro v I oI C oC D m₂ h tk E' hv hC hx F N off ne
      obtain ⟨a, ha, hV⟩ := hP i v (by (first | lia | omega)) hv
      refine wpAny_mono (turn a v I oI C oC D m₂ ys h tk E' (List.mem_of_getElem? ha) hV hC hx F N) (fun y s₂ hq => ?_) fun _ _ e => e
      obtain ⟨⟨h', tk', e, k⟩, hg⟩ := hq
      refine ⟨h', tk', news, e, Fr.kp F k, News.grown N k, off, hS, ?_⟩
      refine ih (i + 1) _ (by (first | lia | omega)) ?_
      rw [List.take_add_one, ha]
      exact Paired.snoc hy hg
  exact key n 0 [] (by (first | lia | omega)) (by rw [List.take_zero]; exact .nil)
theorem comp_restT {α : Type} (ks : List α) (V : α → Value → Prop) (p : α → Bool) (G : α → Value → Prop) (hS : S news) (hlen : ks.length = n) (hP : ∀ i v, i < n → P i v → ∃ a, ks[i]? = some a ∧ V a v)
    (turn : ∀ a v I oI C oC D m₂ ys h tk (E' : Value → Shared → Prop), a ∈ ks → V a v → LCg.NsObj oC m₂ → m₂ x = some v → Fr h₀ L h m → News h₀ L h ((I, oI) :: (C, oC) :: (D, LCg.lst ys) :: news) →
      wpAny (model prog w) A (isTrue ct (compEnvC scope cl C env) (eval ct (compEnvC scope cl C env))) (fun ok s' => if ok = true then p a = true ∧ wpAny (model prog w) A (eval elt (compEnvC scope cl C env)) (EltEnd s h (G a)) E' s' else p a = false ∧ Step s h s') E' { s with heap := h, toks := tk })
    (fin : ∀ ys, Paired G (ks.filter p) ys → Fin ys news) : LCt.CompRestT prog w A h₀ L m env ct elt x scope cl s S P Fin n 0 [] news := by
  have key : ∀ (j i : Nat) (ys : List Value), i + j = n → Paired G ((ks.take i).filter p) ys → LCt.CompRestT prog w A h₀ L m env ct elt x scope cl s S P Fin j i ys news := by
    intro j
    induction j with
    | zero =>
      intro i ys hi hy
      have e : i = ks.length := by (first | lia | omega)
      subst e
      rw [List.take_length] at hy
      exact LCt.CompRestT.zero (fin ys hy)
    | succ j ih =>
      intro i ys hi hy
      refine LCt.CompRestT.succ ?_
      intro v I oI C oC D m₂ h tk E' hv hC hx F N off ne
      obtain ⟨a, ha, hV⟩ := hP i v (by (first | lia | omega)) hv
      refine wpAny_mono (turn a v I oI C oC D m₂ ys h tk E' (List.mem_of_getElem? ha) hV hC hx F N) (fun ok s₁ hq => ?_) fun _ _ e => e
      have hs : (ks.take (i + 1)).filter p = (ks.take i).filter p ++ [a].filter p := by rw [List.take_add_one, ha, List.filter_append]; rfl
      cases ok with
      | true =>
        simp only [if_true] at hq ⊢
        obtain ⟨hp, hq⟩ := hq
        refine wpAny_mono hq (fun y s₂ hq => ?_) fun _ _ e => e
        obtain ⟨⟨h', tk', e, k⟩, hg⟩ := hq
        refine ⟨h', tk', news, e, Fr.kp F k, News.grown N k, off, hS, ?_⟩
        refine ih (i + 1) _ (by (first | lia | omega)) ?_
        rw [hs]
        simp only [List.filter_cons, hp, if_true, List.filter_nil]
        exact Paired.snoc hy hg
      | false =>
        simp only [Bool.false_eq_true, if_false] at hq ⊢
        obtain ⟨hp, h', tk', e, k⟩ := hq
        refine ⟨h', tk', news, e, Fr.kp F k, News.grown N k, off, hS, ?_⟩
        refine ih (i + 1) _ (by (first | lia | omega)) ?_
        rw [hs]
        simp only [List.filter_cons, hp, Bool.false_eq_true, if_false, List.filter_nil, List.append_nil]
        exact hy
  exact key n 0 [] (by (first | lia | omega)) (by rw [List.take_zero]; exact .nil)
end
theorem strs_paired {α : Type} {f : α → PySem.Str} {l : List α} {ys : List Value} (h : Paired (fun a y => ∃ t, y = .str (f a) t) l ys) : StrsAre ys (l.map f) := by
  induction h with
  | nil => exact .nil
  | cons h _ ih => obtain ⟨t, rfl⟩ := h; exact .cons _ _ ih
theorem ints_paired {α : Type} {f : α → Int} {l : List α} {ys : List Value} (h : Paired (fun a y => ∃ t, y = .int (f a) t) l ys) : IntsAre ys (l.map f) := by
  induction h with
  | nil => exact .nil
  | cons h _ ih => obtain ⟨t, rfl⟩ := h; exact .cons _ _ ih
theorem strs_src {vs : Array Value} {ws : List PySem.Str} (h : StrsAre vs.toList ws) : ∀ i v, i < vs.size → vs[i]? = some v → ∃ a, ws[i]? = some a ∧ ∃ t, v = .str a t := by
  intro i v hi hv
  have hl := StrsAre.len h
  have hi2 : i < ws.length := by rw [← hl]; simpa using hi
  have : ∀ {l : List Value} {ws : List PySem.Str} (h : StrsAre l ws) {i : Nat} {v : Value}, l[i]? = some v → ∃ a, ws[i]? = some a ∧ ∃ t, v = .str a t := by
    intro l ws h
    induction h with
    | nil => intro i v e; cases e
    | cons y t _ ih =>
      intro i v e
      cases i with
      | zero => exact ⟨y, rfl, t, by simpa using e.symm⟩
      | succ i => exact ih (by simpa using e)
  exact this h (by simpa using hv)
theorem ints_src {vs : Array Value} {ws : List Int} (h : IntsAre vs.toList ws) : ∀ i v, i < vs.size → vs[i]? = some v → ∃ a, ws[i]? = some a ∧ ∃ t, v = .int a t := by
  intro i v hi hv
  have : ∀ {l : List Value} {ws : List Int} (h : IntsAre l ws) {i : Nat} {v : Value}, l[i]? = some v → ∃ a, ws[i]? = some a ∧ ∃ t, v = .int a t := by
    intro l ws h
    induction h with
    | nil => intro i v e; cases e
    | cons y t _ ih =>
      intro i v e
      cases i with
      | zero => exact ⟨y, rfl, t, by simpa using e.symm⟩
      | succ i => exact ih (by simpa using e)
  exact this h (by simpa using hv)
/-- names inside a comprehension's block -/
theorem ldc_glob {w : World} {A : Around} {E : Value → Shared → Prop} {s s₀ : Shared} {h₀ : Heap} {L C : Addr} {m mg mb : Str → Option Value} {scope : Scope} {cl : List (Str × Addr)} {env : Env} {x : Str} {pos : Pos} {v : Value} {Q : Value → Shared → Prop}
    (F : Fr h₀ L s.heap m) (T : Top qv (looseW qv looseX) (ExcName.means s₀.heap) mg mb h₀) (KX : (kF w.params).In h₀) (e : nsIn (kF w.params) mainGlobals x = some (some v)) (h : Q v s) (hg : env.globals = mainGlobals := by rfl)
    (hk : (compEnvC scope cl C env).scope.kind = .function := by rfl) (hx : (compEnvC scope cl C env).kindOf x = some .globalImplicit := by rfl) (hd : (x == ("__debug__" : Str)) = false := by decide) :
    wpAny (model pw w) A (eval (.Name x pos) (compEnvC scope cl C env)) Q E s := LCgL.ld_global F KX T e h hg hk hx hd
end
-- WQ2
section
theorem heard_ne {D I : Addr} {oI : Obj} {p : Addr × Obj} {r : List (Addr × Obj)} (h : ∀ q ∈ p :: (I, oI) :: r, q.1 ≠ D) : @Ne Nat D I := fun e => h (I, oI) (.tail _ (.head _)) e.symm
theorem ch_eq {c d : Nat} {x : PySem.Str} (hx : x = sL [d]) : ((⟨#[c]⟩ : PySem.Str) == x) = decide (c = d) := by
  subst hx
  by_cases e : c = d
  · subst e; simp
  · rw [decide_eq_false e]; apply beq_false_of_ne; intro q; exact e (by simpa using q)
theorem comma_is : PySem.Str.ofString "," = sL [44] := by kernel_rfl
theorem h_cat {c : Nat} {ws : List PySem.Str} {vs : Array Value} {t : Tok} (hn : inB1 (c : Int) = false) (hv : StrsAre vs.toList ws) (h : ((⟨#[c]⟩ : PySem.Str) == sL [32]) = true ∨ ((⟨#[c]⟩ : PySem.Str) == PySem.Str.ofString ",") = true) :
    StrsAre (vs ++ #[Value.str (PySem.Str.ofString "") t]).toList (hStep ws c) := by
  have e : c = 32 ∨ c = 44 := by
    rcases h with h | h
    · rw [ch_eq rfl] at h; exact .inl (of_decide_eq_true h)
    · rw [ch_eq comma_is] at h; exact .inr (of_decide_eq_true h)
  unfold hStep
  rw [hn, if_neg (by decide), if_pos e, Array.toList_append, show PySem.Str.ofString "" = sL [] by kernel_rfl]
  exact strs_app hv (.cons _ _ .nil)
theorem h_set {c : Nat} {ws : List PySem.Str} {vs : Array Value} {x : PySem.Str} {tx t : Tok} (hn : inB1 (c : Int) = false) (hv : StrsAre vs.toList ws) (hx : vs[vs.size - 1]? = some (.str x tx))
    (h1 : ((⟨#[c]⟩ : PySem.Str) == sL [32]) = false) (h2 : ((⟨#[c]⟩ : PySem.Str) == PySem.Str.ofString ",") = false) : StrsAre (vs.setIfInBounds (vs.size - 1) (.str (x ++ b3S c) t)).toList (hStep ws c) := by
  have e : ¬ (c = 32 ∨ c = 44) := by
    rw [ch_eq rfl] at h1; rw [ch_eq comma_is] at h2
    have := of_decide_eq_false h1; have := of_decide_eq_false h2
    (first | lia | omega)
  unfold hStep
  have hl : vs.size = ws.length := by rw [← StrsAre.len hv]; simp
  have hx2 : ws.getD (ws.length - 1) (sL []) = x := by
    have hp : ws.length - 1 < ws.length := by
      rcases Nat.eq_zero_or_pos vs.size with h0 | h0
      · rw [h0, Array.getElem?_eq_none (by (first | lia | omega))] at hx; cases hx
      · (first | lia | omega)
    obtain ⟨t', ht⟩ := strs_at hv (List.getElem?_eq_getElem hp)
    rw [Array.getElem?_toList, show vs[ws.length - 1]? = vs[vs.size - 1]? by rw [hl], hx] at ht
    rw [List.getD, List.getElem?_eq_getElem hp]
    simp only [Option.getD_some]
    have ht2 := ht.symm
    simp at ht2
    exact ht2.1
  rw [hn, if_neg (by decide), if_neg e, Array.toList_setIfInBounds, hx2, hl]
  exact strs_set hv _ _ _

set_option maxHeartbeats 4000000 in
theorem heard_if {w : World} {s s₀ : Shared} {A : Around} {Q : Flow → Shared → Prop} {h₀ : Heap} {L : Addr} {news0 : List (Addr × Obj)} {mg mb m : PySem.Str → Option Value} {c : Nat} {tc : Tok} (T : Top qv (looseW qv looseX) (ExcName.means s₀.heap) mg mb h₀) (GL : GLt mg mb h₀) (KX : (kF w.params).In h₀) (g : GF w h₀)
    (F : Fr h₀ L s.heap m) (N : News h₀ L s.heap news0) (hA : A.depth ≤ 410) (hU : A.units ≤ 90) (hh : A.handled = none) (mo : m (PySem.Str.ofString "one") = some (.str ⟨#[c]⟩ tc))
    (rest : ∀ h tk, Fr h₀ L h m → News h₀ L h news0 → inB1 (c : Int) = false → Q .next { s with heap := h, toks := tk }) (cont : ∀ h tk, Fr h₀ L h m → News h₀ L h news0 → inB1 (c : Int) = true → Q .cont { s with heap := h, toks := tk }) :
    wpAny (model pw w) (A.deeper (envOf (PySem.Str.ofString "_law_heard") (fdS 30) L 203 (Value.ref 202))) (exec ((stBody ((fdB 30).getD 1 dStmt)).getD 0 dStmt) (envOf (PySem.Str.ofString "_law_heard") (fdS 30) L 203 (Value.ref 202))) Q (fun _ _ => False) s := by
  conv => pattern List.getD (stBody ((fdB 30).getD 1 dStmt)) _ _; whnf
  conv => pattern (occs := *) fdS 30; all_goals whnf
  w_on
  repeat' (first | wrow_close | ((with_reducible show wpAny _ _ (call (.ref 64) [.ref _, .ref _]) _ _ _); (rename Fr _ _ _ _ => Fz'); (rename News _ _ _ _ => Nz'); (rename GF _ _ => gz'); (with_unfolding_all refine catl_led gz' Fz' Nz' (News.get Nz' (.tail _ (.tail _ (.head _)))) (News.get Nz' (.head _)) (dn (by assumption)) (un (by assumption)) (by assumption) (by assumption) (by exact Nat.le_of_ble_eq_true rfl) ?_); (clear Fz' Nz'); (intro _ _ _ _ _ _); (try (conv => arg 6; dsimp only))) | ((with_reducible show wpAny _ _ (call (.ref 92) _) _ _ _); (rename Fr _ _ _ _ => Fz'); (rename News _ _ _ _ => Nz'); (rename GF _ _ => gz'); (with_unfolding_all refine seti_led (rest := []) gz' Fz' Nz' (by assumption) (fun _ q => nomatch q) (dn (by assumption)) (un (by assumption)) (by assumption) (by assumption) rfl ?_); (clear Fz' Nz'); (intro _ _ _ _ _); (try (conv => arg 6; dsimp only))) | ((with_reducible show wpAny _ _ (call (.ref 64) [.str _ _, .str _ _]) _ _ _); (rename Fr _ _ _ _ => Fz'); (rename News _ _ _ _ => Nz'); (rename GF _ _ => gz'); (with_unfolding_all refine cats_c (gz'.keeps Fz'.keep) (dn (by assumption)) (un (by assumption)) (by assumption) (by assumption) (by assumption) ?_); (intro _ _ _ kz'); (walk_at "own aft")) | ((with_reducible show wpAny _ _ (call (.ref 78) _) _ _ _); (rename Fr _ _ _ _ => Fz'); (rename News _ _ _ _ => Nz'); (rename GF _ _ => gz'); (with_unfolding_all refine geti_c (gz'.keeps Fz'.keep) (dn (by assumption)) (un (by assumption)) (by assumption) (News.get Nz' (.tail _ (.head _))) (by assumption) rfl (by assumption) ?_); (intro _ _ kz'); (walk_at "own aft")) | ((rename Fr _ _ _ _ => Fz'); (rename News _ _ _ _ => Nz'); (rename GF _ _ => gz'); (first   | ((with_reducible show wpAny _ _ (call (.ref 110) _) _ _ _); with_unfolding_all refine b1_c (gz'.keeps Fz'.keep) (dn (by assumption)) (un (by assumption)) (by assumption) ?_; intro _ _ kz')   | ((with_reducible show wpAny _ _ (call (.ref 36) _) _ _ _); with_unfolding_all refine eq_c (gz'.keeps Fz'.keep) (dn (by assumption)) (un (by assumption)) (by assumption) ?_; intro _ _ kz')   | ((with_reducible show wpAny _ _ (call (.ref 163) _) _ _ _); with_unfolding_all refine c11_c (gz'.keeps Fz'.keep) (dn (by assumption)) (un (by assumption)) (by assumption) ?_; intro _ _ kz')   | ((with_reducible show wpAny _ _ (call (.ref 156) _) _ _ _); with_unfolding_all refine b3_c (gz'.keeps Fz'.keep) (dn (by assumption)) (un (by assumption)) (by assumption) (by exact Nat.le_refl _) ?_; intro _ _ _ kz') ); (walk_at "own aft")) | walk1 | (dsimp only; walk1) | (leave1; walk_say "STEP leave1"; try dsimp only at *) | fail "no step")
  all_goals rename Fr _ _ _ _ => Fe
  all_goals rename News _ _ _ _ => Ne
  all_goals first
    | exact cont _ _ Fe Ne (by assumption)
    | exact rest _ _ Fe Ne (by first | assumption | simp_all)
    | trace_state
set_option maxHeartbeats 4000000 in
theorem heard_else {w : World} {s s₀ : Shared} {A : Around} {Q : Flow → Shared → Prop} {h₀ : Heap} {L : Addr} {mg mb m : PySem.Str → Option Value} {c : Nat} {tc : Tok} {I W : Addr} {oI : Obj} {vs : Array Value} {k : Nat} {ws : List PySem.Str} {x : PySem.Str} {tx : Tok} (T : Top qv (looseW qv looseX) (ExcName.means s₀.heap) mg mb h₀) (GL : GLt mg mb h₀) (KX : (kF w.params).In h₀) (g : GF w h₀)
    (F : Fr h₀ L s.heap m) (N : News h₀ L s.heap ((I, oI) :: (W, { cls := .type "list", data := .seq vs k }) :: [])) (hA : A.depth ≤ 410) (hU : A.units ≤ 90) (hh : A.handled = none) (mo : m (PySem.Str.ofString "one") = some (.str ⟨#[c]⟩ tc)) (mw : m (PySem.Str.ofString "words") = some (.ref W)) (hv : StrsAre vs.toList ws) (hsz : vs.size ≤ 10000) (hpos : 0 < vs.size) (hIW : (@Ne Nat I W)) (hx : vs[vs.size - 1]? = some (.str x tx)) (hxl : x.length ≤ 10000) (hc : (b3S c).length ≤ 10000) (hn : inB1 (c : Int) = false)
    (rest : ∀ h tk W' vs' k' all m', Fr h₀ L h m' → News h₀ L h all → (I, oI) ∈ all → (W', ({ cls := .type "list", data := .seq vs' k' } : Obj)) ∈ all → (@Ne Nat W' I) → StrsAre vs'.toList (hStep ws c) → m' (PySem.Str.ofString "words") = some (.ref W') → (∀ q, q ≠ (PySem.Str.ofString "words") → m' q = m q) → Q .next { s with heap := h, toks := tk }) :
    wpAny (model pw w) (A.deeper (envOf (PySem.Str.ofString "_law_heard") (fdS 30) L 203 (Value.ref 202))) (exec ((stBody ((fdB 30).getD 1 dStmt)).getD 1 dStmt) (envOf (PySem.Str.ofString "_law_heard") (fdS 30) L 203 (Value.ref 202))) Q (fun _ _ => False) s := by
  conv => pattern List.getD (stBody ((fdB 30).getD 1 dStmt)) _ _; whnf
  conv => pattern (occs := *) fdS 30; all_goals whnf
  w_on
  repeat' (first | wrow_close | ((with_reducible show wpAny _ _ (call (.ref 64) [.ref _, .ref _]) _ _ _); (rename Fr _ _ _ _ => Fz'); (rename News _ _ _ _ => Nz'); (rename GF _ _ => gz'); (with_unfolding_all refine catl_led gz' Fz' Nz' (News.get Nz' (.tail _ (.tail _ (.head _)))) (News.get Nz' (.head _)) (dn (by assumption)) (un (by assumption)) (by assumption) (by assumption) (by exact Nat.le_of_ble_eq_true rfl) ?_); (clear Fz' Nz'); (intro _ _ _ _ _ _); (try (conv => arg 6; dsimp only))) | ((with_reducible show wpAny _ _ (call (.ref 92) _) _ _ _); (rename Fr _ _ _ _ => Fz'); (rename News _ _ _ _ => Nz'); (rename GF _ _ => gz'); (with_unfolding_all refine seti_led (rest := []) gz' Fz' Nz' (by assumption) (fun _ q => nomatch q) (dn (by assumption)) (un (by assumption)) (by assumption) (by assumption) rfl ?_); (clear Fz' Nz'); (intro _ _ _ _ _); (try (conv => arg 6; dsimp only))) | ((with_reducible show wpAny _ _ (call (.ref 64) [.str _ _, .str _ _]) _ _ _); (rename Fr _ _ _ _ => Fz'); (rename News _ _ _ _ => Nz'); (rename GF _ _ => gz'); (with_unfolding_all refine cats_c (gz'.keeps Fz'.keep) (dn (by assumption)) (un (by assumption)) (by assumption) (by assumption) (by assumption) ?_); (intro _ _ _ kz'); (walk_at "own aft")) | ((with_reducible show wpAny _ _ (call (.ref 78) _) _ _ _); (rename Fr _ _ _ _ => Fz'); (rename News _ _ _ _ => Nz'); (rename GF _ _ => gz'); (with_unfolding_all refine geti_c (gz'.keeps Fz'.keep) (dn (by assumption)) (un (by assumption)) (by assumption) (News.get Nz' (.tail _ (.head _))) (by assumption) rfl (by assumption) ?_); (intro _ _ kz'); (walk_at "own aft")) | ((rename Fr _ _ _ _ => Fz'); (rename News _ _ _ _ => Nz'); (rename GF _ _ => gz'); (first   | ((with_reducible show wpAny _ _ (call (.ref 110) _) _ _ _); with_unfolding_all refine b1_c (gz'.keeps Fz'.keep) (dn (by assumption)) (un (by assumption)) (by assumption) ?_; intro _ _ kz')   | ((with_reducible show wpAny _ _ (call (.ref 36) _) _ _ _); with_unfolding_all refine eq_c (gz'.keeps Fz'.keep) (dn (by assumption)) (un (by assumption)) (by assumption) ?_; intro _ _ kz')   | ((with_reducible show wpAny _ _ (call (.ref 163) _) _ _ _); with_unfolding_all refine c11_c (gz'.keeps Fz'.keep) (dn (by assumption)) (un (by assumption)) (by assumption) ?_; intro _ _ kz')   | ((with_reducible show wpAny _ _ (call (.ref 156) _) _ _ _); with_unfolding_all refine b3_c (gz'.keeps Fz'.keep) (dn (by assumption)) (un (by assumption)) (by assumption) (by exact Nat.le_refl _) ?_; intro _ _ _ kz') ); (walk_at "own aft")) | walk1 | (dsimp only; walk1) | (leave1; walk_say "STEP leave1"; try dsimp only at *) | fail "no step")
  all_goals rename Fr _ _ _ _ => Fe
  all_goals rename News _ _ _ _ => Ne
  · exact rest _ _ _ _ _ _ _ Fe Ne (.tail _ (.tail _ (.head _))) (.head _) (heard_ne (by assumption)) (h_cat hn hv (.inl (by assumption))) rfl (fun q hq => if_neg hq)
  · exact rest _ _ _ _ _ _ _ Fe Ne (.tail _ (.tail _ (.head _))) (.head _) (heard_ne (by assumption)) (h_cat hn hv (.inr (by assumption))) rfl (fun q hq => if_neg hq)
  · exact rest _ _ _ _ _ _ _ Fe Ne (.head _) (.tail _ (.head _)) (fun e => hIW e.symm) (h_set hn hv hx (by assumption) (by assumption)) mw (fun q hq => rfl)
end
-- WQP
section
theorem hStep_len (ws : List PySem.Str) (c : Nat) : ws.length ≤ (hStep ws c).length ∧ (hStep ws c).length ≤ ws.length + 1 := by
  unfold hStep
  split
  · (first | lia | omega)
  · split
    · simp
    · simp
theorem getD_le {ws : List PySem.Str} {n i : Nat} (h : ∀ x ∈ ws, x.length ≤ n) : (ws.getD i (sL [])).length ≤ n := by
  rw [List.getD]
  cases e : ws[i]? with
  | none => exact Nat.zero_le _
  | some x => exact h x (List.mem_of_getElem? e)
theorem hStep_le {ws : List PySem.Str} {c n k : Nat} (h : ∀ x ∈ ws, x.length ≤ n) (hc : (b3S c).length ≤ k) : ∀ x ∈ hStep ws c, x.length ≤ n + k := by
  unfold hStep
  split
  · intro x hx; have := h x hx; (first | lia | omega)
  · split
    · intro x hx
      rcases List.mem_append.mp hx with q | q
      · have := h x q; (first | lia | omega)
      · rw [List.mem_singleton.mp q]; exact Nat.zero_le _
    · intro x hx
      rcases List.mem_or_eq_of_mem_set hx with q | q
      · have := h x q; (first | lia | omega)
      · subst q
        rw [PySem.Str.length_append]
        have := getD_le (i := ws.length - 1) h
        (first | lia | omega)
theorem last_at {vs : Array Value} {ws : List PySem.Str} (h : StrsAre vs.toList ws) (h0 : 0 < ws.length) : ∃ x t, vs[vs.size - 1]? = some (.str x t) ∧ x ∈ ws ∧ 0 < vs.size := by
  have hl : vs.size = ws.length := by rw [← StrsAre.len h]; simp
  have hp : ws.length - 1 < ws.length := by (first | lia | omega)
  obtain ⟨t', ht⟩ := strs_at h (List.getElem?_eq_getElem hp)
  refine ⟨_, t', ?_, List.getElem_mem hp, by (first | lia | omega)⟩
  rw [← Array.getElem?_toList, hl]; exact ht
end
-- WQ3
section
local macro_rules | `(tactic| walk_at "eval ListComp") => `(tactic| refine Halt.go ?_)
set_option maxHeartbeats 4000000 in
theorem heard_loop {w : World} {s s₀ : Shared} {A : Around} {Q : Flow → Shared → Prop} {h₀ : Heap} {L : Addr} {mg mb m : PySem.Str → Option Value} {x : PySem.Str} {l : List Nat} {ts : Tok} {W : Addr} {vs : Array Value} {k : Nat} (T : Top qv (looseW qv looseX) (ExcName.means s₀.heap) mg mb h₀) (GL : GLt mg mb h₀) (KX : (kF w.params).In h₀) (g : GF w h₀)
    (F : Fr h₀ L s.heap m) (N : News h₀ L s.heap [(W, { cls := .type "list", data := .seq vs k })]) (hA : A.depth ≤ 410) (hU : A.units ≤ 90) (hh : A.handled = none) (hx : sL l = x) (hl : x.length ≤ 300) (hc : ∀ c ∈ l, (b3S c).length ≤ 10) (hv : StrsAre vs.toList [sL []]) (ms : m (PySem.Str.ofString "signs") = some (.str x ts)) (mw : m (PySem.Str.ofString "words") = some (.ref W))
    (rest : ∀ h tk W' vs' k' m', Fr h₀ L h m' → News h₀ L h [(W', { cls := .type "list", data := .seq vs' k' })] → StrsAre vs'.toList (l.foldl hStep [sL []]) → vs'.size ≤ 400 → m' (PySem.Str.ofString "words") = some (.ref W') → Q .next { s with heap := h, toks := tk }) :
    wpAny (model pw w) (A.deeper (envOf (PySem.Str.ofString "_law_heard") (fdS 30) L 203 (Value.ref 202))) (exec ((fdB 30).getD 1 dStmt) (envOf (PySem.Str.ofString "_law_heard") (fdS 30) L 203 (Value.ref 202))) Q (fun _ _ => False) s := by
  conv => pattern List.getD (fdB 30) _ _; whnf
  conv => pattern (occs := *) fdS 30; all_goals whnf
  w_on
  with_unfolding_all refine For_at F (by rfl) (by rfl) ?_
  wrow_steps
  try dsimp only
  rename Fr _ _ _ _ => F2
  rename News _ _ _ _ => N2
  refine ForAt.str (J := (fun i M news => ∃ (ws : List PySem.Str) (W : Addr) (vs : Array Value) (k : Nat), news = [(W, { cls := .type "list", data := .seq vs k })] ∧ StrsAre vs.toList ws ∧ 0 < ws.length ∧ ws.length ≤ i + 1 ∧ (∀ x ∈ ws, x.length ≤ 10 * i) ∧ M (PySem.Str.ofString "words") = some (.ref W) ∧ (l.drop i).foldl hStep ws = l.foldl hStep [sL []])) hh F2 N2 ⟨[sL []], W, vs, k, rfl, hv, by decide, by decide, by intro x hx; rw [List.mem_singleton.mp hx]; exact Nat.zero_le _, mw, rfl⟩ ?_ ?_
  · clear F2 N2 rest
    rintro i c t m₁ news₁ h tk I o hi ⟨ws, W1, vs1, k1, rfl, hv1, hp1, hl1, hb1, mw1, hf1⟩ hoff F₁ N₁
    clear ms mw hv
    have hil : i < l.length := by
      rcases Nat.lt_or_ge i l.length with q | q
      · exact q
      · rw [← hx, show (sL l).cps = l.toArray from rfl, Array.getElem?_eq_none (by simpa using q)] at hi; cases hi
    have hcl : l[i]? = some c := by rw [← hx] at hi; simpa using hi
    have hcm : c ∈ l := List.mem_of_getElem? hcl
    have hlx : l.length ≤ 300 := by rw [← hx, sL_len] at hl; exact hl
    have hIW : (@Ne Nat I W1) := fun e => hoff _ (.head _) e.symm
    obtain ⟨xw, tw, hxw, hxm, hpos⟩ := last_at hv1 hp1
    have hsz : vs1.size = ws.length := by rw [← StrsAre.len hv1]; simp
    have hdrop : l.drop i = c :: l.drop (i + 1) := by
      rw [List.drop_eq_getElem_cons hil]; congr 1; rw [List.getElem?_eq_getElem hil] at hcl; exact Option.some.inj hcl
    refine wpAny_execs_cons ?_
    refine heard_if (s := ⟨_, _, _, _, _⟩) (L := L) (c := c) (tc := t) T GL KX g F₁ N₁ hA hU hh rfl ?_ ?_
    · rintro h tk F₂ N₂ hn
      dsimp only
      refine wpAny_execs_cons ?_
      refine heard_else (s := ⟨_, _, _, _, _⟩) (L := L) (c := c) (tc := t) (ws := ws) T GL KX g F₂ N₂ hA hU hh rfl mw1 hv1 (by (first | lia | omega)) hpos hIW hxw (by have := hb1 xw hxm; (first | lia | omega)) (by have := hc c hcm; (first | lia | omega)) hn ?_
      rintro h tk W' vs' k' all m' F₃ N₃ hI hW hWI hv' mw' hq
      dsimp only
      refine wpAny_execs_nil ?_
      refine LStep.next F₃ N₃ [(W', _)] (fun p hp => ?_) (fun p hp => ?_) ⟨_, W', vs', k', rfl, hv', ?_, ?_, ?_, mw', ?_⟩
      · rcases List.mem_cons.mp hp with rfl | hp
        · exact hI
        · rw [List.mem_singleton.mp hp]; exact hW
      · rw [List.mem_singleton.mp hp]; exact hWI
      · have := hStep_len ws c; (first | lia | omega)
      · have := hStep_len ws c; (first | lia | omega)
      · have := hStep_le (c := c) hb1 (hc c hcm); rw [show 10 * (i + 1) = 10 * i + 10 by (first | lia | omega)]; exact this
      · rw [← hf1, hdrop]; rfl
    · rintro h tk F₂ N₂ hn
      dsimp only
      refine LStep.cont F₂ N₂ [(W1, _)] (fun p hp => hp) (fun p hp => ?_) ⟨ws, W1, vs1, k1, rfl, hv1, hp1, by (first | lia | omega), fun x hx => ?_, mw1, ?_⟩
      · rw [List.mem_singleton.mp hp]; exact fun e => hIW e.symm
      · have := hb1 x hx; (first | lia | omega)
      · rw [← hf1, hdrop]
        show _ = (l.drop (i + 1)).foldl hStep (hStep ws c)
        rw [show hStep ws c = ws by unfold hStep; rw [if_pos hn]]
  · clear F2 N2
    rintro h tk m₁ news₁ F₁ N₁ ⟨ws, W1, vs1, k1, rfl, hv1, hp1, hl1, hb1, mw1, hf1⟩
    refine wpAny_execs_nil ?_
    have hlx : l.length ≤ 300 := by rw [← hx, sL_len] at hl; exact hl
    have hcs : x.cps.size = l.length := by rw [← hx]; simp
    rw [hcs] at hf1 hl1
    rw [List.drop_eq_nil_of_le (Nat.le_refl _)] at hf1
    have hf1 : ws = l.foldl hStep [sL []] := hf1
    have hsz : vs1.size = ws.length := by rw [← StrsAre.len hv1]; simp
    exact rest _ _ _ _ _ _ F₁ N₁ (hf1 ▸ hv1) (by (first | lia | omega)) mw1
end
-- WQ4
section
local macro_rules | `(tactic| walk_at "a pad of the join") => `(tactic| fail)
local macro_rules | `(tactic| walk_at "eval ListComp") => `(tactic| refine Halt.go ?_)
noncomputable def heardS (l : List Nat) : List PySem.Str := (l.foldl hStep [sL []]).filter fun x => !(x == PySem.Str.ofString "")
local macro_rules | `(tactic| walk_at "eval Name") => `(tactic| ((with_reducible show wpAny _ _ (eval (Expr.Name _ _) (compEnvC _ _ _ _)) _ _ _); (rename News _ _ _ _ => N'); (rename LCg.NsObj _ _ => C'); (with_unfolding_all refine LCgL.ld_own N' (.tail _ (.head _)) C' (by assumption) ?_)))
set_option maxHeartbeats 4000000 in
theorem heard_c0 {w : World} {s : Shared} {A : Around} {Q : Value → Shared → Prop} {E : Value → Shared → Prop} {x : PySem.Str} {l : List Nat} {t : Tok} (g : GF w s.heap) (hA : A.depth ≤ 410) (hU : A.units ≤ 90) (hh : A.handled = none) (hx : sL l = x) (hl : x.length ≤ 300) (hc : ∀ c ∈ l, (b3S c).length ≤ 10)
    (ret : ∀ D h' tk' vs k, Kp s.heap h' → h'.get? D = some { cls := .type "list", data := .seq vs k } → s.heap.get? D = none → StrsAre vs.toList (heardS l) → Q (.ref D) { s with heap := h', toks := tk' }) :
    wpAny (model pw w) A (call (.ref 203) [.str x t]) Q E s := by
  obtain ⟨o, ho, hd, hcd⟩ := fn_at g (k_lawheard _) (c_lawheard _)
  obtain ⟨s₀, mg, mb, T, GL, KX⟩ := g.open
  conv at hd => pattern fdB 30; whnf
  conv at hd => pattern fdP 30; whnf
  conv at hd => pattern fdS 30; whnf
  refine wpAny_call (call_pos_ret (Nat.lt_of_le_of_lt hA (by decide)) ho hd GL.nolimit hcd (by rfl) (locs (by rfl)) (fun h₁ F => ?_))
  clear hd ho hcd
  dsimp only [List.map, List.zip, List.zipWith]
  have N := News.nil (h₀ := s.heap) (h := h₁) (L := s.heap.objs.size)
  w_on
  wrow_steps
  all_goals (try dsimp only)
  refine Halt.on ?_
  rename Fr _ _ _ _ => Fe
  rename News _ _ _ _ => Ne
  obtain ⟨M, hM, FM⟩ := Fr.pack Fe
  have ms : (∃ tt, M (PySem.Str.ofString "signs") = some (.str x tt)) := by rw [hM]; exact ⟨_, rfl⟩
  obtain ⟨_, ms⟩ := ms
  refine heard_loop (s := ⟨_, _, _, _, _⟩) (L := s.heap.objs.size) T GL KX g FM Ne hA hU hh hx hl hc (by rw [show PySem.Str.ofString "" = sL [] by kernel_rfl]; exact .cons _ _ .nil) ms (by rw [hM]; rfl) ?_
  clear FM Ne Fe ms hM
  rintro h tk W' vs' k' m' F₁ N₁ hv hsz mw
  dsimp only
  wrow_steps
  all_goals (try dsimp only)
  refine Halt.on ?_
  with_unfolding_all refine LCt.ListComp_T F₁ (by rfl) (by decide) (by rfl) (by decide) (by rfl) ?_
  wrow_steps
  have hvs : StrsAre vs'.toList (l.foldl hStep [sL []]) := hv
  refine LCt.CompSrcT.ledger hh (by assumption) N₁ (.head _) (Nat.le_trans hsz (by decide)) ?_
  intro g'
  refine comp_restT (l.foldl hStep [sL []]) (fun a v => ∃ t, v = .str a t) (fun x => !(x == PySem.Str.ofString "")) (fun a y => ∃ t, y = .str a t) (.inr ⟨_, .head _, rfl, _, rfl⟩) (by rw [← StrsAre.len hvs]; simp) (fun i v hi hv => strs_src hvs i v hi hv) ?_ ?_
  · rintro a v I oI C oC D m₂ ys h tk E' ha ⟨ta, rfl⟩ hC hx₂ F₂ N₂
    clear N₁ hvs hv ret
    wrow_steps
    · exact ⟨⟨_, _, rfl, fun _ _ e => e⟩, _, rfl⟩
    · exact ⟨_, _, rfl, fun _ _ e => e⟩
  · intro ys hys D h tk F₃ N₃ o₃
    refine ret _ _ _ _ _ (Fr.keep F₃) (N₃ _ (.head _)).1 (N₃ _ (.head _)).2.2 ?_
    have := strs_paired (f := id) hys
    rw [List.map_id] at this
    exact this
end
-- WEn
section
noncomputable def SStep (h₀ : Heap) (L : Addr) (s₁ : Shared) (h : Heap) (J : (Str → Option Value) → Prop) (Q : Flow → Shared → Prop) (f : Flow) (s₃ : Shared) : Prop :=
  match f with
  | .ret v => Q (.ret v) s₃
  | .brk => Q .next s₃
  | _ => ∃ h' tk' m₂, s₃ = { s₁ with heap := h', toks := tk' } ∧ Kp h h' ∧ Fr h₀ L h' m₂ ∧ J m₂
theorem SStep.next {h₀ h h' : Heap} {L : Addr} {s₁ : Shared} {J : (Str → Option Value) → Prop} {Q : Flow → Shared → Prop} {tk' : Nat} {m₂ : Str → Option Value} (F : Fr h₀ L h' m₂) (k : Kp h h') (j : J m₂) : SStep h₀ L s₁ h J Q .next { s₁ with heap := h', toks := tk' } := ⟨h', tk', m₂, rfl, k, F, j⟩
theorem SStep.ret {h₀ h : Heap} {L : Addr} {s₁ s₃ : Shared} {J : (Str → Option Value) → Prop} {Q : Flow → Shared → Prop} {v : Value} (q : Q (.ret v) s₃) : SStep h₀ L s₁ h J Q (.ret v) s₃ := q
theorem enum_sides {h₀ h₁ : Heap} {L a : Addr} {m : Str → Option Value} {o : Obj} (F : Fr h₀ L h₁ m) (ha : h₀.get? a = some o) :
    (@Ne Nat a (h₁.objs.size + 1)) ∧ (@Ne Nat a h₁.objs.size) ∧ L ∉ [h₁.objs.size + 1, h₁.objs.size, a] ∧ h₀.get? (h₁.objs.size + 1) = none ∧ h₀.get? h₁.objs.size = none := by
  have hL : L < h₁.objs.size := F.ns.lt
  have hA : h₀.objs.size ≤ L := F.above
  have haL : a < h₀.objs.size := Heap.lt_size ha
  have h1 : (@LT.lt Nat _ a h₁.objs.size) := Nat.lt_trans (Nat.lt_of_lt_of_le haL hA) hL
  refine ⟨Nat.ne_of_lt (Nat.lt_succ_of_lt h1), Nat.ne_of_lt h1, fun hm => ?_, Heap.get?_none_of_le (Nat.le_trans hA (Nat.le_of_lt (Nat.lt_succ_of_lt hL))), Heap.get?_none_of_le (Nat.le_trans hA (Nat.le_of_lt hL))⟩
  rcases List.mem_cons.mp hm with e | hm
  · exact Nat.ne_of_lt (Nat.lt_succ_of_lt hL) e
  · rcases List.mem_cons.mp hm with e | hm
    · exact Nat.ne_of_lt hL e
    · exact Nat.ne_of_gt (Nat.lt_of_lt_of_le haL hA) (List.mem_singleton.mp hm)
noncomputable def SearchSrc (prog : Program) (w : World) (A : Around) (h₀ : Heap) (env : Env) (xi xc : Str) (body : List Stmt) (Q : Flow → Shared → Prop) (E : Value → Shared → Prop) (xv : Value) (s₁ : Shared) : Prop :=
  ∃ (e it l : Addr) (its : Array Value) (m : Str → Option Value) (J : Nat → (Str → Option Value) → Prop), xv = .ref e ∧ A.handled = none ∧ IsEnum s₁.heap e it 0 .none ∧ s₁.heap.IsListIter it l 0 ∧ s₁.heap.IsList l its ∧
    (@Ne Nat e it) ∧ (@Ne Nat l e) ∧ (@Ne Nat l it) ∧ env.locals ∉ [e, it, l] ∧ h₀.get? e = none ∧ h₀.get? it = none ∧ Fr h₀ env.locals s₁.heap m ∧ J 0 m ∧ (∀ m', ¬ J its.size m') ∧
    ∀ (i : Nat) t v m₁ h tk, its[i]? = some v → J i m₁ → Fr h₀ env.locals h (fun y => if y = xc then some v else if y = xi then some (.int i t) else m₁ y) →
      wpAny (model prog w) A (execs body env) (SStep h₀ env.locals s₁ h (J (i + 1)) Q) E { s₁ with heap := h, toks := tk }
section
variable {prog : Program} {w : World} {A : Around} {s : Shared} {env : Env} {h₀ : Heap}
theorem For_search {E : Value → Shared → Prop} {Q : Flow → Shared → Prop} {xi xc : Str} {pk pv pt pos : Pos} {x1 : Nat} {iter : Expr} {body orelse : List Stmt}
    (hxi : env.kindOf xi = some .local) (hxc : env.kindOf xc = some .local) (hp : (env.scope.kind == .class || (env.scope.kind == .module && env.locals != env.globals)) = false)
    (h : wpAny (model prog w) A (eval iter env) (SearchSrc prog w A h₀ env xi xc body Q E) E s)
    (hs : ∀ x, foldedSetIterable iter env x = pure x := by intro _; rfl)
    (hE : PassesOwn (model prog w) A env E := by passes_own) :
    wpAny (model prog w) A (exec (.For (.Tuple [.Name xi pk, .Name xc pv] x1 pt) iter body orelse pos) env) Q E s := by
  refine wpAny_For (wpAny_mono h (fun xv s₁ h₁ => ?_) fun _ _ e => e) hs
  obtain ⟨e, it, l, its, m, J, rfl, hh, he, hit, hl, hei, hle, hli, hLf, he0, hi0, F, h0, hend, step⟩ := h₁
  refine wpAny_pyIter_enum he ?_
  have W := WalksT.enumerate (prog := prog) (w := w) (A := A) hh e it l hei hle hli its
  have hLw : env.locals ∉ [e, it] := fun hm => hLf (by
    rcases List.mem_cons.mp hm with q | q
    · simp [q]
    · simp [List.mem_singleton.mp q])
  have old : ∀ b o, h₀.get? b = some o → b ∉ [e, it] := fun b o q hm => by
    rcases List.mem_cons.mp hm with r | r
    · rw [r, he0] at q; cases q
    · rw [List.mem_singleton.mp r, hi0] at q; cases q
  refine codeAny_forLoop_any (R := fun r s' => match r with | .ok f => Q f s' | .error e => cameBackBy (model prog w) A env E e s')
    (fun k s' => ∃ (h' : Heap) (tk : Nat) (m' : Str → Option Value) (i : Nat), s' = { s₁ with heap := h', toks := tk } ∧ ((∃ old, IsEnum h' e it i old) ∧ h'.IsListIter it l i ∧ h'.IsList l its) ∧ Fr h₀ env.locals h' m' ∧ J i m' ∧ i ≤ its.size ∧ k = its.size + 1 - i) ?_ (its.size + 1)
    ⟨s₁.heap, s₁.toks, m, 0, rfl, ⟨⟨_, he⟩, hit, hl⟩, F, h0, Nat.zero_le _, rfl⟩
  rintro k s' ⟨H, tk, m', i, rfl, hst, F', hJ, hi, rfl⟩
  have hlt : i < its.size := by
    rcases Nat.lt_or_ge i its.size with q | q
    · exact q
    · have e1 : i = its.size := Nat.le_antisymm hi q
      exact absurd (e1 ▸ hJ) (hend m')
  have next : ∀ h₁ : Heap, (∀ b o, b ∉ [e, it] → H.get? b = some o → h₁.get? b = some o) → Fr h₀ env.locals h₁ m' := fun h₁ hk₁ =>
    ⟨F'.ns.at' fun o q => hk₁ _ o hLw q, fun b o q => hk₁ b o (old b o q) (F'.keep b o q), F'.above⟩
  refine W.item i _ _ _ hlt hst fun T vals h₁ tk₁ hPt _ hT hMid hk₁ => ?_
  obtain ⟨t, x, hx, rfl⟩ := hPt
  refine W.go _ x1 pt i T _ _ _ hMid fun h₂ hst₂ hk₂ => ?_
  have ht₂ : h₂.IsTuple T #[.int i t, x] := hT.at fun o e => hk₂ T o (W.apart i T h₁ hMid) e
  refine wpAny_assign_Tuple hh ht₂ rfl rfl fun h₃ hx₃ => ?_
  replace hx₃ : Heap.ExtBut h₂.objs.size h₂ h₃ := hx₃
  have up₃ : ∀ b o, h₂.get? b = some o → h₃.get? b = some o := fun b o x => hx₃ b o (Nat.ne_of_lt (Heap.lt_size x)) x
  have F₃ := next h₃ fun b o hb x => up₃ b o (hk₂ b o hb (hk₁ b o hb x))
  show wpAny _ A (do holding [x] (assign (.Name xi pk) env (.int i t)); do holding [] (assign (.Name xc pv) env x); pure ()) _ _ _
  refine wpAny_bind (wpAny_holding (wpAny_assign_Name (wpAny_storeName_local hxi F₃.ns (fun h₄ hn₄ hs₄ => ?_) hp)))
  replace hs₄ : Heap.SameBut env.locals h₃ h₄ := hs₄
  have F₄ := F₃.set hn₄ hs₄
  refine wpAny_bind (wpAny_holding (wpAny_assign_Name (wpAny_storeName_local hxc F₄.ns (fun h₅ hn₅ hs₅ => wpAny_pure ?_) hp)))
  replace hs₅ : Heap.SameBut env.locals h₄ h₅ := hs₅
  have F₅ := F₄.set hn₅ hs₅
  have hst₅ := W.frame _ _ h₅ hst₂ fun b hb o q => hs₅.extBut b o (fun r => hLf (r ▸ hb)) (hs₄.extBut b o (fun r => hLf (r ▸ hb)) (up₃ b o q))
  refine wpAny_mono (wpAny_passesOwn hE (step i t x m' h₅ _ hx hJ F₅)) (fun f s₃ h₆ => ?_) fun _ _ e => e
  have key : (∃ h' tk' m₂, s₃ = { s₁ with heap := h', toks := tk' } ∧ Kp h₅ h' ∧ Fr h₀ env.locals h' m₂ ∧ J (i + 1) m₂) →
      ∃ k', k' < its.size + 1 - i ∧ ∃ (h' : Heap) (tk : Nat) (m' : Str → Option Value) (j : Nat), s₃ = { s₁ with heap := h', toks := tk } ∧ ((∃ old, IsEnum h' e it j old) ∧ h'.IsListIter it l j ∧ h'.IsList l its) ∧ Fr h₀ env.locals h' m' ∧ J j m' ∧ j ≤ its.size ∧ k' = its.size + 1 - j := by
    rintro ⟨h', tk', m₂, e1, k, F₆, J₆⟩
    refine ⟨its.size + 1 - (i + 1), by omega, h', tk', m₂, i + 1, e1, ?_, F₆, J₆, hlt, rfl⟩
    have := W.frame _ _ h' hst₅ fun b hb o q => k b o q
    simpa using this
  cases f with
  | ret v => exact h₆
  | brk => exact h₆
  | cont => exact key h₆
  | next => exact key h₆
end
end
-- WO
section
theorem bool_at {bs : List Bool} {i : Nat} {v : Value} (h : (bs.map Value.bool).toArray[i]? = some v) : ∃ b, bs[i]? = some b ∧ v = Value.bool b := by
  rw [List.getElem?_toArray, List.getElem?_map] at h
  cases e : bs[i]? with
  | none => rw [e] at h; cases h
  | some b => rw [e] at h; exact ⟨b, rfl, (Option.some.inj h).symm⟩
theorem idx_le : ∀ {bs : List Bool} {i : Nat}, bs[i]? = some true → bs.idxOf true ≤ i
  | [], i, h => by cases h
  | true :: r, i, _ => by simp
  | false :: r, 0, h => by cases h
  | false :: r, i + 1, h => by
    have := idx_le (bs := r) (i := i) (by simpa using h)
    simp [List.idxOf_cons]; (first | lia | omega)
theorem idx_here {bs : List Bool} {i : Nat} (h : bs[i]? = some true) (hle : i ≤ bs.idxOf true) : (i : Int) = (bs.idxOf true : Nat) := by have := idx_le h; (first | lia | omega)
theorem idx_next {bs : List Bool} {i : Nat} (h : bs[i]? = some false) (hle : i ≤ bs.idxOf true) : i + 1 ≤ bs.idxOf true := by
  rcases Nat.lt_or_ge i (bs.idxOf true) with q | q
  · exact q
  · have e : i = bs.idxOf true := Nat.le_antisymm hle q
    have hi : bs.idxOf true < bs.length := by
      rcases Nat.lt_or_ge i bs.length with r | r
      · (first | lia | omega)
      · rw [List.getElem?_eq_none r] at h; cases h
    have := List.getElem_idxOf hi
    rw [e, List.getElem?_eq_getElem hi, this] at h
    cases h
theorem count_step {bs : List Bool} {i : Nat} {b : Bool} (h : bs[i]? = some b) : (bs.take (i + 1)).count true = (bs.take i).count true + if b = true then 1 else 0 := by
  rw [List.take_add_one, h, List.count_append]
  cases b <;> rfl
set_option maxHeartbeats 4000000 in
theorem count_c {w : World} {s : Shared} {A : Around} {Q : Value → Shared → Prop} {E : Value → Shared → Prop} {a : Addr} {bs : List Bool} {n : Nat} (g : GF w s.heap) (hA : A.depth ≤ 420) (hU : A.units ≤ 100) (hh : A.handled = none) (ha : s.heap.get? a = some { cls := .type "list", data := .seq (bs.map Value.bool).toArray n }) (hn : bs.length ≤ 1000)
    (ret : ∀ t' h' tk', Kp s.heap h' → Q (.int (((bs.count true : Nat) : Int)) t') { s with heap := h', toks := tk' }) :
    wpAny (model pw w) A (call (.ref 71) [.ref a, .bool true]) Q E s := by
  obtain ⟨o, ho, hd, hcd⟩ := fn_at g (k_countOf _) (c_countOf _)
  obtain ⟨s₀, mg, mb, T, GL, KX⟩ := g.open
  conv at hd => pattern fdB 10; whnf
  conv at hd => pattern fdP 10; whnf
  conv at hd => pattern fdS 10; whnf
  refine wpAny_call (call_pos_ret (Nat.lt_of_le_of_lt hA (by decide)) ho hd GL.nolimit hcd (by rfl) (locs (by rfl)) (fun h₁ F => ?_))
  clear hd ho hcd
  dsimp only [List.map, List.zip, List.zipWith]
  have N := News.nil (h₀ := s.heap) (h := h₁) (L := s.heap.objs.size)
  w_on
  repeat' (first | wrow_close | ((with_reducible show wpAny _ _ (call (Value.type "enumerate") _) _ _ _); first | with_reducible (refine Halt.go ?_) | (refine Halt.go ?_)) | walk1 | (dsimp only; walk1) | (leave1; walk_say "STEP leave1"; try dsimp only at *) | fail "no step")
  all_goals (try dsimp only)
  refine Halt.on ?_
  rename Fr _ _ _ _ => Fe
  rename News _ _ _ _ => Ne
  with_unfolding_all refine For_at Fe (by rfl) (by rfl) ?_
  repeat' (first | wrow_close | ((with_reducible show wpAny _ _ (call (Value.type "enumerate") _) _ _ _); first | with_reducible (refine Halt.go ?_) | (refine Halt.go ?_)) | walk1 | (dsimp only; walk1) | (leave1; walk_say "STEP leave1"; try dsimp only at *) | fail "no step")
  try dsimp only
  rename Fr _ _ _ _ => F2
  rename News _ _ _ _ => N2
  refine ForAt.list (J := (fun i M news => news = [] ∧ ∃ tt, M (PySem.Str.ofString "count") = some (.int ((bs.take i).count true : Nat) tt) ∧ M (PySem.Str.ofString "b") = some (.bool true))) hh (IsL.isList (F2.keep _ _ ha)) (fun e => by rw [e] at ha; exact absurd (Heap.lt_size ha) (Nat.not_lt.mpr F2.above)) F2 N2 ⟨rfl, _, rfl, rfl⟩ ⟨_, .inl ha⟩ ?_ ?_
  · clear F2 N2
    rintro i v m₁ news₁ h tk I o hi ⟨rfl, tt, mc, mb⟩ hoff F₁ N₁
    obtain ⟨b, hb, rfl⟩ := bool_at hi
    have hs := count_step hb
    cases b <;> repeat' (first | wrow_close | ((with_reducible show wpAny _ _ (call (Value.type "enumerate") _) _ _ _); first | with_reducible (refine Halt.go ?_) | (refine Halt.go ?_)) | walk1 | (dsimp only; walk1) | (leave1; walk_say "STEP leave1"; try dsimp only at *) | fail "no step")
    · rename Fr _ _ _ _ => Fe
      rename News _ _ _ _ => Ne
      exact LStep.next Fe Ne [] (fun p hp => hp) (fun p hp => nomatch hp) ⟨rfl, _, by rw [hs]; exact mc, mb⟩
    · rename Fr _ _ _ _ => Fe
      rename News _ _ _ _ => Ne
      exact LStep.next Fe Ne [] (fun p hp => hp) (fun p hp => nomatch hp) ⟨rfl, _, by rw [hs]; rfl, mb⟩
  · clear F2 N2
    rintro h tk m₁ news₁ F₁ N₁ ⟨rfl, tt, mc, mb⟩
    repeat' (first | wrow_close | ((with_reducible show wpAny _ _ (call (Value.type "enumerate") _) _ _ _); first | with_reducible (refine Halt.go ?_) | (refine Halt.go ?_)) | walk1 | (dsimp only; walk1) | (leave1; walk_say "STEP leave1"; try dsimp only at *) | fail "no step")
    all_goals (try dsimp only)
    repeat' (first | wrow_close | ((with_reducible show wpAny _ _ (call (Value.type "enumerate") _) _ _ _); first | with_reducible (refine Halt.go ?_) | (refine Halt.go ?_)) | walk1 | (dsimp only; walk1) | (leave1; walk_say "STEP leave1"; try dsimp only at *) | fail "no step")
    all_goals (try dsimp only)
    exact int_end ret (by assumption) (by rw [List.size_toArray, List.length_map, List.take_length])
set_option maxHeartbeats 4000000 in
theorem index_c {w : World} {s : Shared} {A : Around} {Q : Value → Shared → Prop} {E : Value → Shared → Prop} {a : Addr} {bs : List Bool} {n : Nat} (g : GF w s.heap) (hA : A.depth ≤ 420) (hU : A.units ≤ 100) (hh : A.handled = none) (ha : s.heap.get? a = some { cls := .type "list", data := .seq (bs.map Value.bool).toArray n }) (hn : bs.length ≤ 1000) (hm : true ∈ bs)
    (ret : ∀ t' h' tk', Kp s.heap h' → Q (.int (((bs.idxOf true : Nat) : Int)) t') { s with heap := h', toks := tk' }) :
    wpAny (model pw w) A (call (.ref 85) [.ref a, .bool true]) Q E s := by
  obtain ⟨o, ho, hd, hcd⟩ := fn_at g (k_indexOf _) (c_indexOf _)
  obtain ⟨s₀, mg, mb, T, GL, KX⟩ := g.open
  conv at hd => pattern fdB 12; whnf
  conv at hd => pattern fdP 12; whnf
  conv at hd => pattern fdS 12; whnf
  refine wpAny_call (call_pos_ret (Nat.lt_of_le_of_lt hA (by decide)) ho hd GL.nolimit hcd (by rfl) (locs (by rfl)) (fun h₁ F => ?_))
  clear hd ho hcd
  dsimp only [List.map, List.zip, List.zipWith]
  have N := News.nil (h₀ := s.heap) (h := h₁) (L := s.heap.objs.size)
  w_on
  repeat' (first | wrow_close | ((with_reducible show wpAny _ _ (call (Value.type "enumerate") _) _ _ _); first | with_reducible (refine Halt.go ?_) | (refine Halt.go ?_)) | walk1 | (dsimp only; walk1) | (leave1; walk_say "STEP leave1"; try dsimp only at *) | fail "no step")
  all_goals (try dsimp only)
  refine Halt.on ?_
  rename Fr _ _ _ _ => Fe
  rename News _ _ _ _ => Ne
  with_unfolding_all refine For_search (h₀ := s.heap) (by rfl) (by rfl) (by rfl) ?_
  repeat' (first | wrow_close | ((with_reducible show wpAny _ _ (call (Value.type "enumerate") _) _ _ _); first | with_reducible (refine Halt.go ?_) | (refine Halt.go ?_)) | walk1 | (dsimp only; walk1) | (leave1; walk_say "STEP leave1"; try dsimp only at *) | fail "no step")
  refine Halt.on ?_
  rename Fr _ _ _ _ => F2
  rename News _ _ _ _ => N2
  have hix : bs.idxOf true < bs.length := List.idxOf_lt_length_iff.mpr hm
  refine call_enumerate_list (IsL.isList (F2.keep _ _ ha)) fun h' he hit hsz hk => ?_
  obtain ⟨d1, d2, d3, d4, d5⟩ := enum_sides F2 ha
  refine ⟨_, _, a, _, _, (fun i M => M (PySem.Str.ofString "b") = some (.bool true) ∧ i ≤ bs.idxOf true), rfl, hh, he, hit, ⟨_, hk _ _ (F2.keep _ _ ha), rfl, _, rfl⟩, Nat.succ_ne_self _, d1, d2, d3, d4, d5, F2.keeps hk, ⟨rfl, Nat.zero_le _⟩, ?_, ?_⟩
  · rintro m' ⟨_, h⟩
    rw [List.size_toArray, List.length_map] at h
    (first | lia | omega)
  · rintro i t v m₁ h tk hi ⟨mb, hle⟩ F₁
    have N := News.nil (h₀ := s.heap) (h := h) (L := s.heap.objs.size)
    obtain ⟨b, hb, rfl⟩ := bool_at hi
    cases b <;> repeat' (first | wrow_close | ((with_reducible show wpAny _ _ (call (Value.type "enumerate") _) _ _ _); first | with_reducible (refine Halt.go ?_) | (refine Halt.go ?_)) | walk1 | (dsimp only; walk1) | (leave1; walk_say "STEP leave1"; try dsimp only at *) | fail "no step")
    · rename Fr _ _ _ _ => Fe
      exact SStep.next Fe (fun _ _ e => e) ⟨mb, idx_next hb hle⟩
    · refine SStep.ret ?_
      dsimp only
      exact int_end ret (by assumption) (by rw [idx_here hb hle])
end
-- WS
section
theorem digit_int {d : Nat} (hd : d < 10) : PySem.intText? (⟨#[48 + d]⟩ : PySem.Str) = some (d : Int) := by
  have : ∀ k, k < 10 → PySem.intText? (⟨#[48 + k]⟩ : PySem.Str) = some (k : Int) := by decide +kernel
  exact this d hd
theorem dash_is : PySem.Str.ofString "-" = sL [45] := by kernel_rfl
noncomputable def figL (d k : Nat) : List Nat := 48 :: 120 :: (48 + d) :: List.replicate k 48
theorem fig_0 {x : PySem.Str} {d k : Nat} (h : sL (figL d k) = x) : (Txt.item x 0 == PySem.Str.ofString "-") = false := by
  subst h
  have := item_sL (figL d k) 0 (by simp [figL])
  rw [show ((0 : Nat) : Int) = 0 from rfl] at this
  rw [this, dash_is]; rfl
theorem negf_0 {x : PySem.Str} {d k : Nat} (h : sL (45 :: figL d k) = x) : (Txt.item x 0 == PySem.Str.ofString "-") = true := by
  subst h
  have := item_sL (45 :: figL d k) 0 (by simp [figL])
  rw [show ((0 : Nat) : Int) = 0 from rfl] at this
  rw [this, dash_is]; rfl
theorem fig_2 {x : PySem.Str} {d k : Nat} (hd : d < 10) (h : sL (figL d k) = x) : PySem.intText? (Txt.item x 2) = some (d : Int) := by
  subst h
  have := item_sL (figL d k) 2 (by simp [figL])
  rw [show ((2 : Nat) : Int) = 2 from rfl] at this
  rw [this]; exact digit_int hd
theorem fig_len {x : PySem.Str} {d k : Nat} (h : sL (figL d k) = x) : x.length = k + 3 := by rw [← h, sL_len]; simp [figL]
theorem neg_slice {x : PySem.Str} {d k : Nat} (h : sL (45 :: figL d k) = x) : Txt.slice x (some 1) none = sL (figL d k) := by
  subst h
  exact slice_from (45 :: figL d k) 1 (by simp [figL])
theorem negf_len {x : PySem.Str} {d k : Nat} (h : sL (45 :: figL d k) = x) : x.length = k + 4 := by rw [← h, sL_len]; simp [figL]
set_option maxHeartbeats 4000000 in
theorem six_fp {w : World} {s s₀ : Shared} {A : Around} {Q : Flow → Shared → Prop} {h₀ : Heap} {L : Addr} {mg mb m : PySem.Str → Option Value} {x : PySem.Str} {d k : Nat} {t : Tok} (T : Top qv (looseW qv looseX) (ExcName.means s₀.heap) mg mb h₀) (GL : GLt mg mb h₀) (KX : (kF w.params).In h₀) (g : GF w h₀)
    (F : Fr h₀ L s.heap m) (N : News h₀ L s.heap []) (hA : A.depth ≤ 410) (hU : A.units ≤ 90) (hh : A.handled = none) (hx : sL (figL d k) = x) (hk : k ≤ 8) (mw : m (PySem.Str.ofString "word") = some (.str x t))
    (rest : ∀ h tk t', Fr h₀ L h (fun z => if z = (PySem.Str.ofString "figure") then some (.str (sL (figL d k)) t') else m z) → News h₀ L h [] → Q .next { s with heap := h, toks := tk }) :
    wpAny (model pw w) (A.deeper (envOf (PySem.Str.ofString "_law_by_sixteens") (fdS 31) L 210 (Value.ref 209))) (exec ((fdB 31).getD 0 dStmt) (envOf (PySem.Str.ofString "_law_by_sixteens") (fdS 31) L 210 (Value.ref 209))) Q (fun _ _ => False) s := by
  conv => pattern List.getD (fdB 31) _ _; whnf
  conv => pattern (occs := *) fdS 31; all_goals whnf
  w_on
  have hxl := fig_len hx
  have h0 := fig_0 hx
  have hxb : x.length ≤ 1000 := by (first | lia | omega)
  repeat' (first | wrow_close | ((rename Fr _ _ _ _ => Fz'); (rename News _ _ _ _ => Nz'); (rename GF _ _ => gz'); (first   | ((with_reducible show wpAny _ _ (call (.ref 50) _) _ _ _); with_unfolding_all refine neg_c (gz'.keeps Fz'.keep) (dn (by assumption)) (un (by assumption)) (by assumption) ?_; intro _ _ _ kz') ); (walk_at "own aft")) | ((with_reducible show wpAny _ _ (call (.ref 43) _) _ _ _); (rename Fr _ _ _ _ => Fz'); (rename News _ _ _ _ => Nz'); (rename GF _ _ => gz'); (with_unfolding_all refine lshift_c (gz'.keeps Fz'.keep) (dn (by assumption)) (un (by assumption)) (by assumption) (by (first | lia | omega)) (by (first | lia | omega)) (by (first | lia | omega)) (by (first | lia | omega)) ?_); (intro _ _ _ kz'); (walk_at "own aft")) | ((with_reducible show wpAny _ _ (call (Value.type "int") _) _ _ _); first | with_reducible ((refine PySem.W.KIN.call_text (by assumption) (by (first | lia | omega)) ?_)) | ((refine PySem.W.KIN.call_text (by assumption) (by (first | lia | omega)) ?_))) | walk1 | (dsimp only; walk1) | (leave1; walk_say "STEP leave1"; try dsimp only at *) | fail "no step")
  all_goals rename Fr _ _ _ _ => Fe
  all_goals rename News _ _ _ _ => Ne
  rw [← hx] at Fe; exact rest _ _ _ Fe Ne
set_option maxHeartbeats 4000000 in
theorem six_fn {w : World} {s s₀ : Shared} {A : Around} {Q : Flow → Shared → Prop} {h₀ : Heap} {L : Addr} {mg mb m : PySem.Str → Option Value} {x : PySem.Str} {d k : Nat} {t : Tok} (T : Top qv (looseW qv looseX) (ExcName.means s₀.heap) mg mb h₀) (GL : GLt mg mb h₀) (KX : (kF w.params).In h₀) (g : GF w h₀)
    (F : Fr h₀ L s.heap m) (N : News h₀ L s.heap []) (hA : A.depth ≤ 410) (hU : A.units ≤ 90) (hh : A.handled = none) (hx : sL (45 :: figL d k) = x) (hk : k ≤ 8) (mw : m (PySem.Str.ofString "word") = some (.str x t))
    (rest : ∀ h tk t', Fr h₀ L h (fun z => if z = (PySem.Str.ofString "figure") then some (.str (sL (figL d k)) t') else m z) → News h₀ L h [] → Q .next { s with heap := h, toks := tk }) :
    wpAny (model pw w) (A.deeper (envOf (PySem.Str.ofString "_law_by_sixteens") (fdS 31) L 210 (Value.ref 209))) (exec ((fdB 31).getD 0 dStmt) (envOf (PySem.Str.ofString "_law_by_sixteens") (fdS 31) L 210 (Value.ref 209))) Q (fun _ _ => False) s := by
  conv => pattern List.getD (fdB 31) _ _; whnf
  conv => pattern (occs := *) fdS 31; all_goals whnf
  w_on
  have hxl := negf_len hx
  have h0 := negf_0 hx
  have hxb : x.length ≤ 1000 := by (first | lia | omega)
  repeat' (first | wrow_close | ((rename Fr _ _ _ _ => Fz'); (rename News _ _ _ _ => Nz'); (rename GF _ _ => gz'); (first   | ((with_reducible show wpAny _ _ (call (.ref 50) _) _ _ _); with_unfolding_all refine neg_c (gz'.keeps Fz'.keep) (dn (by assumption)) (un (by assumption)) (by assumption) ?_; intro _ _ _ kz') ); (walk_at "own aft")) | ((with_reducible show wpAny _ _ (call (.ref 43) _) _ _ _); (rename Fr _ _ _ _ => Fz'); (rename News _ _ _ _ => Nz'); (rename GF _ _ => gz'); (with_unfolding_all refine lshift_c (gz'.keeps Fz'.keep) (dn (by assumption)) (un (by assumption)) (by assumption) (by (first | lia | omega)) (by (first | lia | omega)) (by (first | lia | omega)) (by (first | lia | omega)) ?_); (intro _ _ _ kz'); (walk_at "own aft")) | ((with_reducible show wpAny _ _ (call (Value.type "int") _) _ _ _); first | with_reducible ((refine PySem.W.KIN.call_text (by assumption) (by (first | lia | omega)) ?_)) | ((refine PySem.W.KIN.call_text (by assumption) (by (first | lia | omega)) ?_))) | walk1 | (dsimp only; walk1) | (leave1; walk_say "STEP leave1"; try dsimp only at *) | fail "no step")
  all_goals rename Fr _ _ _ _ => Fe
  all_goals rename News _ _ _ _ => Ne
  rw [neg_slice hx] at Fe; exact rest _ _ _ Fe Ne
set_option maxHeartbeats 4000000 in
theorem six_told {w : World} {s s₀ : Shared} {A : Around} {Q : Flow → Shared → Prop} {h₀ : Heap} {L : Addr} {mg mb m : PySem.Str → Option Value} {x : PySem.Str} {d k : Nat} {t : Tok} (T : Top qv (looseW qv looseX) (ExcName.means s₀.heap) mg mb h₀) (GL : GLt mg mb h₀) (KX : (kF w.params).In h₀) (g : GF w h₀)
    (F : Fr h₀ L s.heap m) (N : News h₀ L s.heap []) (hA : A.depth ≤ 410) (hU : A.units ≤ 90) (hh : A.handled = none) (hx : sL (figL d k) = x) (hd : d < 10) (hk : k ≤ 8) (mw : m (PySem.Str.ofString "figure") = some (.str x t))
    (rest : ∀ h tk t', Fr h₀ L h (fun z => if z = (PySem.Str.ofString "told") then some (.int ((d : Int) * 2 ^ (4 * k)) t') else m z) → News h₀ L h [] → Q .next { s with heap := h, toks := tk }) :
    wpAny (model pw w) (A.deeper (envOf (PySem.Str.ofString "_law_by_sixteens") (fdS 31) L 210 (Value.ref 209))) (exec ((fdB 31).getD 1 dStmt) (envOf (PySem.Str.ofString "_law_by_sixteens") (fdS 31) L 210 (Value.ref 209))) Q (fun _ _ => False) s := by
  conv => pattern List.getD (fdB 31) _ _; whnf
  conv => pattern (occs := *) fdS 31; all_goals whnf
  w_on
  have hxl := fig_len hx
  have hi := fig_2 hd hx
  repeat' (first | wrow_close | ((rename Fr _ _ _ _ => Fz'); (rename News _ _ _ _ => Nz'); (rename GF _ _ => gz'); (first   | ((with_reducible show wpAny _ _ (call (.ref 50) _) _ _ _); with_unfolding_all refine neg_c (gz'.keeps Fz'.keep) (dn (by assumption)) (un (by assumption)) (by assumption) ?_; intro _ _ _ kz') ); (walk_at "own aft")) | ((with_reducible show wpAny _ _ (call (.ref 43) _) _ _ _); (rename Fr _ _ _ _ => Fz'); (rename News _ _ _ _ => Nz'); (rename GF _ _ => gz'); (with_unfolding_all refine lshift_c (gz'.keeps Fz'.keep) (dn (by assumption)) (un (by assumption)) (by assumption) (by (first | lia | omega)) (by (first | lia | omega)) (by (first | lia | omega)) (by (first | lia | omega)) ?_); (intro _ _ _ kz'); (walk_at "own aft")) | ((with_reducible show wpAny _ _ (call (Value.type "int") _) _ _ _); first | with_reducible ((refine PySem.W.KIN.call_text (by assumption) (by (first | lia | omega)) ?_)) | ((refine PySem.W.KIN.call_text (by assumption) (by (first | lia | omega)) ?_))) | walk1 | (dsimp only; walk1) | (leave1; walk_say "STEP leave1"; try dsimp only at *) | fail "no step")
  all_goals rename Fr _ _ _ _ => Fe
  all_goals rename News _ _ _ _ => Ne
  rw [hxl, show (4 * (((k + 3 : Nat) : Int) - 3)).toNat = 4 * k by (first | lia | omega)] at Fe
  exact rest _ _ _ Fe Ne
set_option maxHeartbeats 4000000 in
theorem six_rp {w : World} {s s₀ : Shared} {A : Around} {Q : Flow → Shared → Prop} {h₀ : Heap} {L : Addr} {mg mb m : PySem.Str → Option Value} {x : PySem.Str} {d k : Nat} {t tt : Tok} (T : Top qv (looseW qv looseX) (ExcName.means s₀.heap) mg mb h₀) (GL : GLt mg mb h₀) (KX : (kF w.params).In h₀) (g : GF w h₀)
    (F : Fr h₀ L s.heap m) (N : News h₀ L s.heap []) (hA : A.depth ≤ 410) (hU : A.units ≤ 90) (hh : A.handled = none) (hx : sL (figL d k) = x) (mw : m (PySem.Str.ofString "word") = some (.str x t)) (mt : m (PySem.Str.ofString "told") = some (.int ((d : Int) * 2 ^ (4 * k)) tt))
    (rest : ∀ h tk t', Fr h₀ L h m → Q (.ret (.int ((d : Int) * 2 ^ (4 * k)) t')) { s with heap := h, toks := tk }) :
    wpAny (model pw w) (A.deeper (envOf (PySem.Str.ofString "_law_by_sixteens") (fdS 31) L 210 (Value.ref 209))) (exec ((fdB 31).getD 2 dStmt) (envOf (PySem.Str.ofString "_law_by_sixteens") (fdS 31) L 210 (Value.ref 209))) Q (fun _ _ => False) s := by
  conv => pattern List.getD (fdB 31) _ _; whnf
  conv => pattern (occs := *) fdS 31; all_goals whnf
  w_on
  have hxl := fig_len hx
  have h0 := fig_0 hx
  generalize hv : (d : Int) * 2 ^ (4 * k) = v at *
  repeat' (first | wrow_close | ((rename Fr _ _ _ _ => Fz'); (rename News _ _ _ _ => Nz'); (rename GF _ _ => gz'); (first   | ((with_reducible show wpAny _ _ (call (.ref 50) _) _ _ _); with_unfolding_all refine neg_c (gz'.keeps Fz'.keep) (dn (by assumption)) (un (by assumption)) (by assumption) ?_; intro _ _ _ kz') ); (walk_at "own aft")) | ((with_reducible show wpAny _ _ (call (.ref 43) _) _ _ _); (rename Fr _ _ _ _ => Fz'); (rename News _ _ _ _ => Nz'); (rename GF _ _ => gz'); (with_unfolding_all refine lshift_c (gz'.keeps Fz'.keep) (dn (by assumption)) (un (by assumption)) (by assumption) (by (first | lia | omega)) (by (first | lia | omega)) (by (first | lia | omega)) (by (first | lia | omega)) ?_); (intro _ _ _ kz'); (walk_at "own aft")) | ((with_reducible show wpAny _ _ (call (Value.type "int") _) _ _ _); first | with_reducible ((refine PySem.W.KIN.call_text (by assumption) (by (first | lia | omega)) ?_)) | ((refine PySem.W.KIN.call_text (by assumption) (by (first | lia | omega)) ?_))) | walk1 | (dsimp only; walk1) | (leave1; walk_say "STEP leave1"; try dsimp only at *) | fail "no step")
  all_goals rename Fr _ _ _ _ => Fe
  exact rest _ _ _ Fe
set_option maxHeartbeats 4000000 in
theorem six_rn {w : World} {s s₀ : Shared} {A : Around} {Q : Flow → Shared → Prop} {h₀ : Heap} {L : Addr} {mg mb m : PySem.Str → Option Value} {x : PySem.Str} {d k : Nat} {t tt : Tok} (T : Top qv (looseW qv looseX) (ExcName.means s₀.heap) mg mb h₀) (GL : GLt mg mb h₀) (KX : (kF w.params).In h₀) (g : GF w h₀)
    (F : Fr h₀ L s.heap m) (N : News h₀ L s.heap []) (hA : A.depth ≤ 410) (hU : A.units ≤ 90) (hh : A.handled = none) (hx : sL (45 :: figL d k) = x) (mw : m (PySem.Str.ofString "word") = some (.str x t)) (mt : m (PySem.Str.ofString "told") = some (.int ((d : Int) * 2 ^ (4 * k)) tt))
    (rest : ∀ h tk t', Fr h₀ L h m → Q (.ret (.int (-((d : Int) * 2 ^ (4 * k))) t')) { s with heap := h, toks := tk }) :
    wpAny (model pw w) (A.deeper (envOf (PySem.Str.ofString "_law_by_sixteens") (fdS 31) L 210 (Value.ref 209))) (exec ((fdB 31).getD 2 dStmt) (envOf (PySem.Str.ofString "_law_by_sixteens") (fdS 31) L 210 (Value.ref 209))) Q (fun _ _ => False) s := by
  conv => pattern List.getD (fdB 31) _ _; whnf
  conv => pattern (occs := *) fdS 31; all_goals whnf
  w_on
  have hxl := negf_len hx
  have h0 := negf_0 hx
  generalize hv : (d : Int) * 2 ^ (4 * k) = v at *
  repeat' (first | wrow_close | ((rename Fr _ _ _ _ => Fz'); (rename News _ _ _ _ => Nz'); (rename GF _ _ => gz'); (first   | ((with_reducible show wpAny _ _ (call (.ref 50) _) _ _ _); with_unfolding_all refine neg_c (gz'.keeps Fz'.keep) (dn (by assumption)) (un (by assumption)) (by assumption) ?_; intro _ _ _ kz') ); (walk_at "own aft")) | ((with_reducible show wpAny _ _ (call (.ref 43) _) _ _ _); (rename Fr _ _ _ _ => Fz'); (rename News _ _ _ _ => Nz'); (rename GF _ _ => gz'); (with_unfolding_all refine lshift_c (gz'.keeps Fz'.keep) (dn (by assumption)) (un (by assumption)) (by assumption) (by (first | lia | omega)) (by (first | lia | omega)) (by (first | lia | omega)) (by (first | lia | omega)) ?_); (intro _ _ _ kz'); (walk_at "own aft")) | ((with_reducible show wpAny _ _ (call (Value.type "int") _) _ _ _); first | with_reducible ((refine PySem.W.KIN.call_text (by assumption) (by (first | lia | omega)) ?_)) | ((refine PySem.W.KIN.call_text (by assumption) (by (first | lia | omega)) ?_))) | walk1 | (dsimp only; walk1) | (leave1; walk_say "STEP leave1"; try dsimp only at *) | fail "no step")
  all_goals rename Fr _ _ _ _ => Fe
  exact rest _ _ _ Fe
set_option maxHeartbeats 4000000 in
theorem six_pos {w : World} {s : Shared} {A : Around} {Q : Value → Shared → Prop} {E : Value → Shared → Prop} {x : PySem.Str} {d k : Nat} {t : Tok} (g : GF w s.heap) (hA : A.depth ≤ 410) (hU : A.units ≤ 90) (hh : A.handled = none) (hx : sL (figL d k) = x) (hd : d < 10) (hk : k ≤ 8)
    (ret : ∀ t' h' tk', Kp s.heap h' → Q (.int ((d : Int) * 2 ^ (4 * k)) t') { s with heap := h', toks := tk' }) :
    wpAny (model pw w) A (call (.ref 210) [.str x t]) Q E s := by
  obtain ⟨o, ho, hd, hcd⟩ := fn_at g (k_lawbysixteens _) (c_lawbysixteens _)
  obtain ⟨s₀, mg, mb, T, GL, KX⟩ := g.open
  conv at hd => pattern fdB 31; whnf
  conv at hd => pattern fdP 31; whnf
  conv at hd => pattern fdS 31; whnf
  refine wpAny_call (call_pos_ret (Nat.lt_of_le_of_lt hA (by decide)) ho hd GL.nolimit hcd (by rfl) (locs (by rfl)) (fun h₁ F => ?_))
  clear hd ho hcd
  dsimp only [List.map, List.zip, List.zipWith]
  have N := News.nil (h₀ := s.heap) (h := h₁) (L := s.heap.objs.size)
  refine wpAny_execs_cons ?_
  refine six_fp (s := ⟨_, _, _, _, _⟩) (L := s.heap.objs.size) (t := t) T GL KX g F N hA hU hh hx hk rfl ?_
  rintro h tk t1 F₁ N₁
  dsimp only
  refine wpAny_execs_cons ?_
  refine six_told (s := ⟨_, _, _, _, _⟩) (L := s.heap.objs.size) (t := t1) T GL KX g F₁ N₁ hA hU hh rfl hd hk rfl ?_
  rintro h tk t2 F₂ N₂
  dsimp only
  refine wpAny_execs_cons ?_
  refine six_rp (s := ⟨_, _, _, _, _⟩) (L := s.heap.objs.size) (t := t) (tt := t2) T GL KX g F₂ N₂ hA hU hh hx rfl rfl ?_
  rintro h tk t3 F₃
  exact ret _ _ _ (Fr.keep F₃)
set_option maxHeartbeats 4000000 in
theorem six_neg {w : World} {s : Shared} {A : Around} {Q : Value → Shared → Prop} {E : Value → Shared → Prop} {x : PySem.Str} {d k : Nat} {t : Tok} (g : GF w s.heap) (hA : A.depth ≤ 410) (hU : A.units ≤ 90) (hh : A.handled = none) (hx : sL (45 :: figL d k) = x) (hd : d < 10) (hk : k ≤ 8)
    (ret : ∀ t' h' tk', Kp s.heap h' → Q (.int (-((d : Int) * 2 ^ (4 * k))) t') { s with heap := h', toks := tk' }) :
    wpAny (model pw w) A (call (.ref 210) [.str x t]) Q E s := by
  obtain ⟨o, ho, hd, hcd⟩ := fn_at g (k_lawbysixteens _) (c_lawbysixteens _)
  obtain ⟨s₀, mg, mb, T, GL, KX⟩ := g.open
  conv at hd => pattern fdB 31; whnf
  conv at hd => pattern fdP 31; whnf
  conv at hd => pattern fdS 31; whnf
  refine wpAny_call (call_pos_ret (Nat.lt_of_le_of_lt hA (by decide)) ho hd GL.nolimit hcd (by rfl) (locs (by rfl)) (fun h₁ F => ?_))
  clear hd ho hcd
  dsimp only [List.map, List.zip, List.zipWith]
  have N := News.nil (h₀ := s.heap) (h := h₁) (L := s.heap.objs.size)
  refine wpAny_execs_cons ?_
  refine six_fn (s := ⟨_, _, _, _, _⟩) (L := s.heap.objs.size) (t := t) T GL KX g F N hA hU hh hx hk rfl ?_
  rintro h tk t1 F₁ N₁
  dsimp only
  refine wpAny_execs_cons ?_
  refine six_told (s := ⟨_, _, _, _, _⟩) (L := s.heap.objs.size) (t := t1) T GL KX g F₁ N₁ hA hU hh rfl hd hk rfl ?_
  rintro h tk t2 F₂ N₂
  dsimp only
  refine wpAny_execs_cons ?_
  refine six_rn (s := ⟨_, _, _, _, _⟩) (L := s.heap.objs.size) (t := t) (tt := t2) T GL KX g F₂ N₂ hA hU hh hx rfl rfl ?_
  rintro h tk t3 F₃
  exact ret _ _ _ (Fr.keep F₃)
end
-- PDr
section
abbrev lstO (vs : Array Value) (n : Nat) : Obj := { cls := .type "list", data := .seq vs n }
abbrev tupO (v w : Value) : Obj := { cls := .type "tuple", data := .seq #[v, w] 0 }
noncomputable def PairIn (ts : List (Addr × Obj)) (p : PySem.Str × Int) (v : Value) : Prop := ∃ a t u, v = .ref a ∧ (a, tupO (.str p.1 t) (.int p.2 u)) ∈ ts
noncomputable def condK (f k : Nat) : Bool := k == f % 11 || k == f / 11 % 11
noncomputable def ksN (f n : Nat) : List Nat := (List.range n).filter (condK f)
theorem ks_succ (f n : Nat) : ksN f (n + 1) = if condK f n then ksN f n ++ [n] else ksN f n := by
  unfold ksN
  rw [List.range_succ, List.filter_append]
  cases h : condK f n <;> simp [h]
theorem ks_few (f n : Nat) (hn : n < 10) (h : condK f n = true) : (ksN f n).length ≤ 1 := by
  have key : ∀ a, a < 11 → ∀ b, b < 11 → ∀ k, k < 10 → (k == a || k == b) = true → ((List.range k).filter fun j => j == a || j == b).length ≤ 1 := by decide +kernel
  exact key (f % 11) (Nat.mod_lt _ (by decide)) (f / 11 % 11) (Nat.mod_lt _ (by decide)) n hn h
theorem ks_two (f n : Nat) (hn : n ≤ 10) : (ksN f n).length ≤ 2 := by
  have key : ∀ a, a < 11 → ∀ b, b < 11 → ∀ k, k ≤ 10 → ((List.range k).filter fun j => j == a || j == b).length ≤ 2 := by decide +kernel
  exact key (f % 11) (Nat.mod_lt _ (by decide)) (f / 11 % 11) (Nat.mod_lt _ (by decide)) n hn
noncomputable def pairOf (k sl : Nat) : PySem.Str × Int := (sL (slip (nm k) sl), if sl % 4 = 0 then 0 else 2)
noncomputable def meantK (ks : List Nat) (a b : Nat) : List (PySem.Str × Int) := List.zipWith pairOf ks [a, b]
theorem meantK_snoc {ks : List Nat} {k a b : Nat} (h : ks.length ≤ 1) : meantK (ks ++ [k]) a b = meantK ks a b ++ [pairOf k ([a, b].getD ks.length 0)] := by
  match ks, h with
  | [], _ => rfl
  | [x], _ => rfl
noncomputable def worthK (ks : List Nat) : Int := (ks.map fun k => (2 : Int) ^ k).sum
theorem worthK_snoc (ks : List Nat) (k : Nat) : worthK (ks ++ [k]) = worthK ks + 2 ^ k := by unfold worthK; simp
theorem low_flag : ∀ k, k < 10 → Txt.lower (flagName k) = sL (nm k) := by decide +kernel
section
variable {prog : Program} {w : World} {A : Around} {E : Value → Shared → Prop} {s : Shared} {h₀ : Heap} {L : Addr} {m : Str → Option Value}
theorem ne_objs {h : Heap} {news : List (Addr × Obj)} {a b : Addr} {oa ob : Obj} (N : News h₀ L h news) (ha : (a, oa) ∈ news) (hb : (b, ob) ∈ news) (ne : oa ≠ ob) : a ≠ b := by
  intro e
  have h1 := (N _ ha).1
  have h2 := (N _ hb).1
  dsimp only at h1 h2
  rw [e, h2] at h1
  exact ne (Option.some.inj h1).symm
theorem append_to {D : Addr} {its : Array Value} {n : Nat} {x : Value} {news rest : List (Addr × Obj)} {Q : Value → Shared → Prop}
    (F : Fr h₀ L s.heap m) (N : News h₀ L s.heap news) (hm : (D, lstO its n) ∈ news) (hsub : ∀ p ∈ rest, p ∈ news) (hap : ∀ p ∈ rest, p.1 ≠ D) (hsz : its.size ≤ sizeLine)
    (h : ∀ h', Fr h₀ L h' m → News h₀ L h' ((D, lstO (its.push x) (n + 1)) :: rest) → Q .none { s with heap := h' }) :
    wpAny (model prog w) A (call (.builtin "list.append") [.ref D, x]) Q E s := by
  refine append_at (hsz := hsz) (N.get hm) fun h' hs ho' => h h' (F.change hs (N _ hm).2.1 (N _ hm).2.2) fun p hp => ?_
  rcases List.mem_cons.mp hp with rfl | hp
  · exact ⟨ho', (N _ hm).2⟩
  · exact ⟨hs.extBut _ _ (hap p hp) (N _ (hsub p hp)).1, (N _ (hsub p hp)).2⟩
theorem append_2nd {D I : Addr} {oI : Obj} {its : Array Value} {n : Nat} {x : Value} {rest : List (Addr × Obj)} {Q : Value → Shared → Prop}
    (F : Fr h₀ L s.heap m) (N : News h₀ L s.heap ((I, oI) :: (D, lstO its n) :: rest)) (hI : (@Ne Nat I D)) (hap : ∀ p ∈ rest, p.1 ≠ D) (hsz : its.size ≤ sizeLine)
    (h : ∀ h', Fr h₀ L h' m → News h₀ L h' ((D, lstO (its.push x) (n + 1)) :: (I, oI) :: rest) → Q .none { s with heap := h' }) :
    wpAny (model prog w) A (call (.builtin "list.append") [.ref D, x]) Q E s := by
  refine append_to (rest := (I, oI) :: rest) F N (.tail _ (.head _)) (fun p hp => ?_) (fun p hp => ?_) hsz h
  · rcases List.mem_cons.mp hp with rfl | hp
    · exact .head _
    · exact .tail _ (.tail _ hp)
  · rcases List.mem_cons.mp hp with rfl | hp
    · exact hI
    · exact hap p hp
theorem append_4th {D T P I : Addr} {oT oI : Obj} {vP its : Array Value} {cP n : Nat} {x : Value} {rest : List (Addr × Obj)} {Q : Value → Shared → Prop}
    (F : Fr h₀ L s.heap m) (N : News h₀ L s.heap ((T, oT) :: (P, lstO vP cP) :: (I, oI) :: (D, lstO its n) :: rest)) (hT : oT ≠ lstO its n) (hP : (@Ne Nat P D)) (hI : (@Ne Nat I D)) (hap : ∀ p ∈ rest, p.1 ≠ D) (hsz : its.size ≤ sizeLine)
    (h : ∀ h', Fr h₀ L h' m → News h₀ L h' ((D, lstO (its.push x) (n + 1)) :: (T, oT) :: (P, lstO vP cP) :: (I, oI) :: rest) → Q .none { s with heap := h' }) :
    wpAny (model prog w) A (call (.builtin "list.append") [.ref D, x]) Q E s := by
  have hTD : T ≠ D := ne_objs N (.head _) (.tail _ (.tail _ (.tail _ (.head _)))) hT
  refine append_to (rest := (T, oT) :: (P, lstO vP cP) :: (I, oI) :: rest) F N (.tail _ (.tail _ (.tail _ (.head _)))) (fun p hp => ?_) (fun p hp => ?_) hsz h
  · rcases List.mem_cons.mp hp with rfl | hp
    · exact .head _
    · rcases List.mem_cons.mp hp with rfl | hp
      · exact .tail _ (.head _)
      · rcases List.mem_cons.mp hp with rfl | hp
        · exact .tail _ (.tail _ (.head _))
        · exact .tail _ (.tail _ (.tail _ (.tail _ hp)))
  · rcases List.mem_cons.mp hp with rfl | hp
    · exact hTD
    · rcases List.mem_cons.mp hp with rfl | hp
      · exact hP
      · rcases List.mem_cons.mp hp with rfl | hp
        · exact hI
        · exact hap p hp
end
end
-- WR
section
theorem tup_ne {d : Data} {vs : Array Value} {n : Nat} : ({ cls := .type "tuple", data := d } : Obj) ≠ lstO vs n := fun e => by have h := congrArg Obj.cls e; simp at h
set_option maxHeartbeats 4000000 in
theorem drawn_take {w : World} {s s₀ : Shared} {A : Around} {Q : Flow → Shared → Prop} {h₀ : Heap} {L : Addr} {mg mb m : PySem.Str → Option Value} {k sl : Nat} {W : Int} {tk tw tN tS : Tok} {a I P Mn Nm : Addr} {oI : Obj} {vsP vsM vsN vsA : Array Value} {cP cM cN cA : Nat} {ts : List (Addr × Obj)} (T : Top qv (looseW qv looseX) (ExcName.means s₀.heap) mg mb h₀) (GL : GLt mg mb h₀) (KX : (kF w.params).In h₀) (g : GF w h₀)
    (F : Fr h₀ L s.heap m) (N : News h₀ L s.heap ((I, oI) :: (P, lstO vsP cP) :: (Mn, lstO vsM cM) :: (Nm, lstO vsN cN) :: ts)) (hA : A.depth ≤ 390) (hU : A.units ≤ 80) (hh : A.handled = none) (hk : k < 10) (hP2 : vsP.size ≤ sizeLine) (hP3 : vsP.size ≤ 2) (hM2 : vsM.size ≤ sizeLine) (hsl : sl < 1000000) (hIP : (@Ne Nat I P)) (hIM : (@Ne Nat I Mn)) (hPM : (@Ne Nat P Mn)) (hNP : (@Ne Nat Nm P)) (hNM : (@Ne Nat Nm Mn)) (htP : ∀ p ∈ (Mn, lstO vsM cM) :: (Nm, lstO vsN cN) :: ts, p.1 ≠ P) (htM : ∀ p ∈ (Nm, lstO vsN cN) :: ts, p.1 ≠ Mn)
    (hN : vsN[((k : Nat) : Int).toNat]? = some (.str (flagName k) tN)) (ha : h₀.get? a = some (lstO vsA cA)) (hA1 : vsA[(1 + (vsP.size : Int)).toNat]? = some (.int (sl : Nat) tS)) (hlow : Txt.lower (flagName k) = sL (nm k)) (hl1 : 0 < (Txt.lower (flagName k)).length) (hl2 : (Txt.lower (flagName k)).length ≤ 40) (hfl : (flagName k).length ≤ 40) (m0 : m (PySem.Str.ofString "k") = some (.int (k : Int) tk)) (m1 : m (PySem.Str.ofString "worth") = some (.int W tw)) (m2 : m (PySem.Str.ofString "printed") = some (.ref P)) (m3 : m (PySem.Str.ofString "meant") = some (.ref Mn)) (m4 : m (PySem.Str.ofString "names") = some (.ref Nm)) (m5 : m (PySem.Str.ofString "numbers") = some (.ref a))
    (rest : ∀ h tk D' t1 t2 m', Fr h₀ L h m' → News h₀ L h ((Mn, lstO (vsM.push (.ref D')) (cM + 1)) :: (D', tupO (.str (sL (slip (nm k) sl)) t1) (.int (if sl % 4 = 0 then 0 else 2) t2)) :: (P, lstO (vsP.push (.str (flagName k) tN)) (cP + 1)) :: (I, oI) :: (Nm, lstO vsN cN) :: ts) →
      (@Ne Nat D' P) → (@Ne Nat D' I) → (@Ne Nat D' Mn) → (∃ tw', m' (PySem.Str.ofString "worth") = some (.int (W + 2 ^ k) tw')) → (∀ q, q ≠ (PySem.Str.ofString "worth") → q ≠ (PySem.Str.ofString "slip") → m' q = m q) → Q .next { s with heap := h, toks := tk }) :
    wpAny (model pw w) (A.deeper (envOf (PySem.Str.ofString "_law_drawn") (fdS 28) L 191 (Value.ref 190))) (execs (stBody ((stBody ((fdB 28).getD 5 dStmt)).getD 0 dStmt)) (envOf (PySem.Str.ofString "_law_drawn") (fdS 28) L 191 (Value.ref 190))) Q (fun _ _ => False) s := by
  conv => pattern stBody _; whnf
  conv => pattern (occs := *) fdS 28; all_goals whnf
  w_on
  repeat' (first | wrow_close | ((with_reducible show wpAny _ _ (subscriptTail (Expr.Name _ _) (Expr.Name _ _) (Value.ref _) (Value.int _ _)) _ _ _); first | with_reducible (((rename News _ _ _ _ => Nz'); (with_unfolding_all refine item_led (News.get Nz' (by walk_at "own mem")) (by (first | lia | omega)) (by (first | lia | omega)) (by assumption) ?_))) | (((rename News _ _ _ _ => Nz'); (with_unfolding_all refine item_led (News.get Nz' (by walk_at "own mem")) (by (first | lia | omega)) (by (first | lia | omega)) (by assumption) ?_)))) | ((with_reducible show wpAny _ _ (subscriptTail (Expr.Name _ _) (Expr.BinOp _ _ _ _) (Value.ref _) (Value.int _ _)) _ _ _); first | with_reducible (((rename Fr _ _ _ _ => Fz'); (with_unfolding_all refine item_led (Fz'.keep _ _ (by assumption)) (by (first | lia | omega)) (by (first | lia | omega)) (by assumption) ?_))) | (((rename Fr _ _ _ _ => Fz'); (with_unfolding_all refine item_led (Fz'.keep _ _ (by assumption)) (by (first | lia | omega)) (by (first | lia | omega)) (by assumption) ?_)))) | ((with_reducible show wpAny _ _ (call (.ref 184) _) _ _ _); (rename Fr _ _ _ _ => Fz'); (rename News _ _ _ _ => Nz'); (rename GF _ _ => gz'); (with_unfolding_all refine slip_c0 (by assumption) (gz'.keeps Fz'.keep) (dn (by assumption)) (by assumption) (by assumption) (by assumption) ?_); (intro _ _ _ kz'); (walk_at "own aft")) | ((with_reducible show wpAny _ _ (call (Value.builtin "list.append") _) _ _ _); first | with_reducible (((rename Fr _ _ _ _ => Fz'); (rename News _ _ _ _ => Nz'); first | ((with_unfolding_all refine append_2nd Fz' Nz' (by assumption) ?ha (by assumption) ?_); (case ha => assumption); (clear Fz' Nz'); intro _ _ _) | ((with_unfolding_all refine append_4th Fz' Nz' tup_ne (by assumption) (by assumption) ?ha (by assumption) ?_); (case ha => assumption); (clear Fz' Nz'); intro _ _ _))) | (((rename Fr _ _ _ _ => Fz'); (rename News _ _ _ _ => Nz'); first | ((with_unfolding_all refine append_2nd Fz' Nz' (by assumption) ?ha (by assumption) ?_); (case ha => assumption); (clear Fz' Nz'); intro _ _ _) | ((with_unfolding_all refine append_4th Fz' Nz' tup_ne (by assumption) (by assumption) ?ha (by assumption) ?_); (case ha => assumption); (clear Fz' Nz'); intro _ _ _)))) | walk1 | (dsimp only; walk1) | (leave1; walk_say "STEP leave1"; try dsimp only at *) | fail "no step")
  · skip
    rename Fr _ _ _ _ => Fe
    rename News _ _ _ _ => Ne
    rename _ ∧ _ ∧ _ ∧ _ ∧ AllLt _ _ => hlt
    rename Int.fmod _ 4 = 0 => hz
    rw [fm4] at hz
    refine rest _ _ _ _ _ _ Fe (by rw [if_pos (by (first | lia | omega))]; exact Ne) (Nat.ne_of_gt hlt.1) (Nat.ne_of_gt hlt.2.1) (Nat.ne_of_gt hlt.2.2.1) ⟨_, by rw [Int.toNat_natCast]; rfl⟩ (fun q h1 h2 => by simp only [if_neg h1, if_neg h2])
  · skip
    rename Fr _ _ _ _ => Fe
    rename News _ _ _ _ => Ne
    rename _ ∧ _ ∧ _ ∧ _ ∧ AllLt _ _ => hlt
    rename Int.fmod _ 4 ≠ 0 => hz
    rw [fm4] at hz
    refine rest _ _ _ _ _ _ Fe (by rw [if_neg (by (first | lia | omega))]; exact Ne) (Nat.ne_of_gt hlt.1) (Nat.ne_of_gt hlt.2.1) (Nat.ne_of_gt hlt.2.2.1) ⟨_, by rw [Int.toNat_natCast]; rfl⟩ (fun q h1 h2 => by simp only [if_neg h1, if_neg h2])
end
-- WIf
section
noncomputable def stTest : Stmt → Expr
  | .If t _ _ _ => t
  | .While t _ _ _ => t
  | _ => .Constant .none 0 ⟨0, 0, 0, 0⟩
noncomputable def stElse : Stmt → List Stmt
  | .If _ _ e _ => e
  | .For _ _ _ e _ => e
  | _ => []
noncomputable def isIf : Stmt → Bool
  | .If _ _ _ _ => true
  | _ => false
noncomputable def TestEnd (s : Shared) (b : Bool) (c : Bool) (s' : Shared) : Prop := c = b ∧ ∃ tk, s' = { s with toks := tk }
theorem If_by {M : Model} {A : Around} {E : Value → Shared → Prop} {Q : Flow → Shared → Prop} {s : Shared} {env : Env} {st : Stmt} {b : Bool} (hst : isIf st = true)
    (ht : wpAny M A (isTrue (stTest st) env (eval (stTest st) env)) (TestEnd s b) E s)
    (h1 : b = true → ∀ tk, wpAny M A (execs (stBody st) env) Q E { s with toks := tk }) (h2 : b = false → ∀ tk, wpAny M A (execs (stElse st) env) Q E { s with toks := tk }) :
    wpAny M A (exec st env) Q E s := by
  cases st <;> first | cases hst | skip
  refine wpAny_If (wpAny_mono ht (fun c s' h => ?_) fun _ _ e => e)
  obtain ⟨rfl, tk, rfl⟩ := h
  cases c with
  | true => exact h1 rfl tk
  | false => exact h2 rfl tk
theorem condK_1 {f k : Nat} (h : ((k : Nat) : Int) = ((f : Nat) : Int).fmod 11) : true = condK f k := by
  rw [show (11 : Int) = ((11 : Nat) : Int) from rfl, fmodN] at h
  have : k = f % 11 := by (first | lia | omega)
  unfold condK
  rw [beq_iff_eq.mpr this]; rfl
theorem condK_2 {f k : Nat} (h : ((k : Nat) : Int) = (((f : Nat) : Int).fdiv 11).fmod 11) : true = condK f k := by
  rw [show (11 : Int) = ((11 : Nat) : Int) from rfl, fdivN, fmodN] at h
  have : k = f / 11 % 11 := by (first | lia | omega)
  unfold condK
  rw [beq_iff_eq.mpr this, Bool.or_true]
theorem condK_3 {f k : Nat} (h1 : ((k : Nat) : Int) ≠ ((f : Nat) : Int).fmod 11) (h2 : ((k : Nat) : Int) ≠ (((f : Nat) : Int).fdiv 11).fmod 11) : false = condK f k := by
  rw [show (11 : Int) = ((11 : Nat) : Int) from rfl, fmodN] at h1
  rw [show (11 : Int) = ((11 : Nat) : Int) from rfl, fdivN, fmodN] at h2
  unfold condK
  rw [beq_false_of_ne (by (first | lia | omega)), beq_false_of_ne (by (first | lia | omega))]; rfl
end
-- WR2
section
set_option maxHeartbeats 4000000 in
theorem drawn_test {w : World} {s s₀ : Shared} {A : Around} {E : Value → Shared → Prop} {h₀ : Heap} {L : Addr} {mg mb m : PySem.Str → Option Value} {news0 : List (Addr × Obj)} {k f : Nat} {tk tf : Tok} (T : Top qv (looseW qv looseX) (ExcName.means s₀.heap) mg mb h₀) (GL : GLt mg mb h₀) (KX : (kF w.params).In h₀) (g : GF w h₀)
    (F : Fr h₀ L s.heap m) (N : News h₀ L s.heap news0) (hA : A.depth ≤ 390) (hU : A.units ≤ 80) (hh : A.handled = none) (mk : m (PySem.Str.ofString "k") = some (.int (k : Int) tk)) (mf : m (PySem.Str.ofString "first") = some (.int (f : Int) tf)) :
    wpAny (model pw w) (A.deeper (envOf (PySem.Str.ofString "_law_drawn") (fdS 28) L 191 (Value.ref 190))) (isTrue (stTest ((stBody ((fdB 28).getD 5 dStmt)).getD 0 dStmt)) (envOf (PySem.Str.ofString "_law_drawn") (fdS 28) L 191 (Value.ref 190)) (eval (stTest ((stBody ((fdB 28).getD 5 dStmt)).getD 0 dStmt)) (envOf (PySem.Str.ofString "_law_drawn") (fdS 28) L 191 (Value.ref 190)))) (TestEnd s (condK f k)) E s := by
  conv => pattern (occs := *) stTest _; all_goals whnf
  conv => pattern (occs := *) fdS 28; all_goals whnf
  w_on
  wrow_steps
  · exact ⟨condK_1 (by assumption), _, rfl⟩
  · exact ⟨condK_2 (by assumption), _, rfl⟩
  · exact ⟨condK_3 (by assumption) (by assumption), _, rfl⟩
end
-- WRP
section
theorem pair_more {ts : List (Addr × Obj)} {q : Addr × Obj} {ps : List (PySem.Str × Int)} {vs : List Value} (h : Paired (PairIn ts) ps vs) : Paired (PairIn (q :: ts)) ps vs :=
  h.mono fun _ _ ⟨a, t, u, e, hm⟩ => ⟨a, t, u, e, .tail _ hm⟩
theorem pair_snoc {ts : List (Addr × Obj)} {D : Addr} {x : PySem.Str} {y : Int} {t u : Tok} {ps : List (PySem.Str × Int)} {vs : Array Value} (h : Paired (PairIn ts) ps vs.toList) :
    Paired (PairIn ((D, tupO (.str x t) (.int y u)) :: ts)) (ps ++ [(x, y)]) (vs.push (.ref D)).toList := by
  rw [Array.toList_push]
  exact Paired.snoc (pair_more h) ⟨D, t, u, rfl, .head _⟩
theorem paired_size {ts : List (Addr × Obj)} {ps : List (PySem.Str × Int)} {vs : Array Value} (h : Paired (PairIn ts) ps vs.toList) : vs.size = ps.length := by
  have := Paired.length h
  rw [this]; simp
theorem strs_size {vs : Array Value} {xs : List PySem.Str} (h : StrsAre vs.toList xs) : vs.size = xs.length := by
  rw [← StrsAre.len h]; simp
theorem meantK_len (ks : List Nat) (a b : Nat) : (meantK ks a b).length ≤ 2 := by unfold meantK; rw [List.length_zipWith]; simp; (first | lia | omega)
theorem num_at {vs : Array Value} {l : List Nat} (h : IntsAre vs.toList (l.map fun (n : Nat) => (n : Int))) {i : Nat} (hi : i < l.length) : ∃ t, vs[i]? = some (.int (l.getD i 0 : Nat) t) := by
  have h2 : (l.map fun (n : Nat) => (n : Int))[i]? = some ((l.getD i 0 : Nat) : Int) := by
    rw [List.getElem?_map, List.getElem?_eq_getElem hi, List.getD, List.getElem?_eq_getElem hi]; rfl
  obtain ⟨t, ht⟩ := ints_at h h2
  exact ⟨t, by rw [← Array.getElem?_toList]; exact ht⟩
theorem flag_small : ∀ k, k < 10 → (flagName k).length ≤ 40 ∧ 0 < (sL (nm k)).length ∧ (sL (nm k)).length ≤ 40 := by decide +kernel
end
-- WR3
section
set_option maxHeartbeats 4000000 in
theorem drawn_loop {w : World} {s s₀ : Shared} {A : Around} {Q : Flow → Shared → Prop} {h₀ : Heap} {L : Addr} {mg mb m : PySem.Str → Option Value} {f n1 n2 n3 n4 : Nat} {tf tw : Tok} {a P Mn Nm : Addr} {vsN vsA : Array Value} {cP cM cN cA : Nat} (T : Top qv (looseW qv looseX) (ExcName.means s₀.heap) mg mb h₀) (GL : GLt mg mb h₀) (KX : (kF w.params).In h₀) (g : GF w h₀)
    (F : Fr h₀ L s.heap m) (N : News h₀ L s.heap ((P, lstO #[] cP) :: (Mn, lstO #[] cM) :: (Nm, lstO vsN cN) :: [])) (hA : A.depth ≤ 390) (hU : A.units ≤ 80) (hh : A.handled = none) (hn1 : n1 < 1000000) (hn2 : n2 < 1000000) (hPM : (@Ne Nat P Mn)) (hNP : (@Ne Nat Nm P)) (hNM : (@Ne Nat Nm Mn)) (hN : ∀ k, k < 10 → ∃ tN, vsN[k]? = some (.str (flagName k) tN)) (ha : h₀.get? a = some (lstO vsA cA)) (hA1 : IntsAre vsA.toList ([f, n1, n2, n3, n4].map fun (n : Nat) => (n : Int))) (mw : m (PySem.Str.ofString "worth") = some (.int 0 tw)) (mfirst : m (PySem.Str.ofString "first") = some (.int (f : Int) tf)) (mprinted : m (PySem.Str.ofString "printed") = some (.ref P)) (mmeant : m (PySem.Str.ofString "meant") = some (.ref Mn)) (mnames : m (PySem.Str.ofString "names") = some (.ref Nm)) (mnumbers : m (PySem.Str.ofString "numbers") = some (.ref a))
    (rest : ∀ h tk vsP' cP' vsM' cM' ts' M, Fr h₀ L h M → News h₀ L h ((P, lstO vsP' cP') :: (Mn, lstO vsM' cM') :: (Nm, lstO vsN cN) :: ts') → StrsAre vsP'.toList ((ksN f 10).map flagName) → Paired (PairIn ts') (meantK (ksN f 10) n1 n2) vsM'.toList → (∀ p ∈ ts', p.1 ≠ P ∧ p.1 ≠ Mn) → (∃ tt, M (PySem.Str.ofString "worth") = some (.int (worthK (ksN f 10)) tt)) → M (PySem.Str.ofString "first") = some (.int (f : Int) tf) ∧ M (PySem.Str.ofString "printed") = some (.ref P) ∧ M (PySem.Str.ofString "meant") = some (.ref Mn) ∧ M (PySem.Str.ofString "names") = some (.ref Nm) ∧ M (PySem.Str.ofString "numbers") = some (.ref a) → Q .next { s with heap := h, toks := tk }) :
    wpAny (model pw w) (A.deeper (envOf (PySem.Str.ofString "_law_drawn") (fdS 28) L 191 (Value.ref 190))) (exec ((fdB 28).getD 5 dStmt) (envOf (PySem.Str.ofString "_law_drawn") (fdS 28) L 191 (Value.ref 190))) Q (fun _ _ => False) s := by
  conv => pattern List.getD (fdB 28) _ _; whnf
  conv => pattern (occs := *) fdS 28; all_goals whnf
  w_on
  with_unfolding_all refine For_at F (by rfl) (by rfl) ?_
  wrow_steps
  try dsimp only
  rename Fr _ _ _ _ => F2
  rename News _ _ _ _ => N2
  refine ForAt.range (n := 10) (J := (fun i M news => ∃ (vsP : Array Value) (cP : Nat) (vsM : Array Value) (cM : Nat) (ts : List (Addr × Obj)), news = (P, lstO vsP cP) :: (Mn, lstO vsM cM) :: (Nm, lstO vsN cN) :: ts ∧ StrsAre vsP.toList ((ksN f i).map flagName) ∧ Paired (PairIn ts) (meantK (ksN f i) n1 n2) vsM.toList ∧ (∀ p ∈ ts, p.1 ≠ P ∧ p.1 ≠ Mn) ∧ (∃ tt, M (PySem.Str.ofString "worth") = some (.int (worthK (ksN f i)) tt)) ∧ M (PySem.Str.ofString "first") = some (.int (f : Int) tf) ∧ M (PySem.Str.ofString "printed") = some (.ref P) ∧ M (PySem.Str.ofString "meant") = some (.ref Mn) ∧ M (PySem.Str.ofString "names") = some (.ref Nm) ∧ M (PySem.Str.ofString "numbers") = some (.ref a))) hh (by assumption) (by decide) (by decide) F2 N2 ⟨#[], cP, #[], cM, [], rfl, .nil, .nil, (fun p hp => nomatch hp), ⟨_, mw⟩, mfirst, mprinted, mmeant, mnames, mnumbers⟩ ?_ ?_
  · clear F2 N2 rest
    rintro i t m₁ news₁ h tk I o hi ⟨vsP, cP, vsM, cM, ts, rfl, hsP, hpM, hts, ⟨tw1, mw1⟩, mfirst1, mprinted1, mmeant1, mnames1, mnumbers1⟩ hoff F₁ N₁
    rw [show (0:Int) + (i:Int)*1 = (i:Int) by (first | lia | omega)] at F₁
    have hIP : (@Ne Nat I P) := fun e => hoff _ (.head _) e.symm
    have hIM : (@Ne Nat I Mn) := fun e => hoff _ (.tail _ (.head _)) e.symm
    have hIN : (@Ne Nat I Nm) := fun e => hoff _ (.tail _ (.tail _ (.head _))) e.symm
    have hIt : ∀ p ∈ ts, p.1 ≠ I := fun p hp => hoff p (.tail _ (.tail _ (.tail _ hp)))
    clear mw mfirst mprinted mmeant mnames mnumbers
    have hszP : vsP.size = (ksN f i).length := by rw [strs_size hsP]; simp
    refine wpAny_execs_cons ?_
    refine If_by (st := (stBody ((fdB 28).getD 5 dStmt)).getD 0 dStmt) rfl (drawn_test (s := ⟨_, _, _, _, _⟩) (L := L) (f := f) (k := i) T GL KX g F₁ N₁ hA hU hh rfl mfirst1) (fun hc tk => ?_) (fun hc tk => ?_)
    · have hfew := ks_few f i hi hc
      obtain ⟨tN, hNk⟩ := hN i hi
      obtain ⟨h40, hl1, hl2⟩ := flag_small i hi
      have hlow := low_flag i hi
      have hAi : (1 + (vsP.size : Int)).toNat = 1 + (ksN f i).length := by (first | lia | omega)
      obtain ⟨tS, hS⟩ := num_at hA1 (i := 1 + (ksN f i).length) (by simp; (first | lia | omega))
      have hsl : [f, n1, n2, n3, n4].getD (1 + (ksN f i).length) 0 = [n1, n2].getD (ksN f i).length 0 := by
        generalize (ksN f i).length = q at hfew
        match q, hfew with
        | 0, _ => rfl
        | 1, _ => rfl
      rw [hsl] at hS
      have hsl2 : [n1, n2].getD (ksN f i).length 0 < 1000000 := by
        generalize (ksN f i).length = q at hfew
        match q, hfew with
        | 0, _ => exact hn1
        | 1, _ => exact hn2
      have hM2 := meantK_len (ksN f i) n1 n2
      have hszM : vsM.size ≤ 2 := by rw [paired_size hpM]; exact hM2
      refine drawn_take (s := ⟨_, _, _, _, _⟩) (L := L) (k := i) (sl := [n1, n2].getD (ksN f i).length 0) (vsA := vsA) (ts := ts) T GL KX g F₁ N₁ hA hU hh hi (Nat.le_trans (by (first | lia | omega) : vsP.size ≤ 2) (by decide)) (by (first | lia | omega)) (Nat.le_trans hszM (by decide)) hsl2 hIP hIM hPM hNP hNM
        (fun p hp => ?_) (fun p hp => ?_) (by rw [Int.toNat_natCast]; exact hNk) ha (by rw [hAi]; exact hS) hlow (by rw [hlow]; exact hl1) (by rw [hlow]; exact hl2) h40 rfl mw1 mprinted1 mmeant1 mnames1 mnumbers1 ?_
      · rcases List.mem_cons.mp hp with rfl | hp
        · exact fun e => hPM e.symm
        · rcases List.mem_cons.mp hp with rfl | hp
          · exact hNP
          · exact (hts p hp).1
      · rcases List.mem_cons.mp hp with rfl | hp
        · exact hNM
        · exact (hts p hp).2
      rintro h tk D' t1 t2 m' F₃ N₃ hDP hDI hDM ⟨tw', mw'⟩ hq
      refine wpAny_execs_nil ?_
      refine LStep.next F₃ N₃ ((P, lstO (vsP.push (.str (flagName i) tN)) (cP + 1)) :: (Mn, lstO (vsM.push (.ref D')) (cM + 1)) :: (Nm, lstO vsN cN) :: (D', tupO (.str (sL (slip (nm i) ([n1, n2].getD (ksN f i).length 0))) t1) (.int (if [n1, n2].getD (ksN f i).length 0 % 4 = 0 then 0 else 2) t2)) :: ts) (fun p hp => ?_) (fun p hp => ?_) ⟨_, _, _, _, _, rfl, ?_, ?_, ?_, ⟨tw', ?_⟩, (hq (PySem.Str.ofString "first") (by decide) (by decide)).trans mfirst1, (hq (PySem.Str.ofString "printed") (by decide) (by decide)).trans mprinted1, (hq (PySem.Str.ofString "meant") (by decide) (by decide)).trans mmeant1, (hq (PySem.Str.ofString "names") (by decide) (by decide)).trans mnames1, (hq (PySem.Str.ofString "numbers") (by decide) (by decide)).trans mnumbers1⟩
      · simp only [List.mem_cons] at hp ⊢
        rcases hp with rfl | rfl | rfl | rfl | rfl | hp <;> simp_all
      · rcases List.mem_cons.mp hp with rfl | hp
        · exact fun e => hIP e.symm
        · rcases List.mem_cons.mp hp with rfl | hp
          · exact fun e => hIM e.symm
          · rcases List.mem_cons.mp hp with rfl | hp
            · exact fun e => hIN e.symm
            · rcases List.mem_cons.mp hp with rfl | hp
              · exact hDI
              · exact hIt p hp
      · rw [ks_succ, if_pos hc, List.map_append]
        exact strs_push hsP _ _
      · rw [ks_succ, if_pos hc, meantK_snoc hfew]
        exact pair_snoc hpM
      · intro p hp
        rcases List.mem_cons.mp hp with rfl | hp
        · exact ⟨hDP, hDM⟩
        · exact hts p hp
      · rw [ks_succ, if_pos hc, worthK_snoc]; exact mw'
    · refine wpAny_execs_nil (wpAny_execs_nil ?_)
      have hk : ksN f (i + 1) = ksN f i := by rw [ks_succ, hc]; rfl
      refine LStep.next F₁ N₁ _ (fun p hp => hp) hoff ⟨vsP, cP, vsM, cM, ts, rfl, by rw [hk]; exact hsP, by rw [hk]; exact hpM, hts, ⟨tw1, by rw [hk]; exact mw1⟩, mfirst1, mprinted1, mmeant1, mnames1, mnumbers1⟩
  · clear F2 N2
    rintro h tk m₁ news₁ F₁ N₁ ⟨vsP, cP, vsM, cM, ts, rfl, hsP, hpM, hts, hw, mfirst1, mprinted1, mmeant1, mnames1, mnumbers1⟩
    refine wpAny_execs_nil ?_
    exact rest _ _ _ _ _ _ _ _ F₁ N₁ hsP hpM hts hw ⟨mfirst1, mprinted1, mmeant1, mnames1, mnumbers1⟩
end
-- WRA
section
section
variable {prog : Program} {w : World} {A : Around} {E : Value → Shared → Prop} {s : Shared} {h₀ : Heap} {L : Addr} {m : Str → Option Value}
theorem last_led {D : Addr} {its : Array Value} {n : Nat} {b : Int} {t : Tok} {x : Value} {Q : Value → Shared → Prop} {value slice : Expr}
    (ho : s.heap.get? D = some (lstO (its.push x) n)) (hb : b = -1) (h : Q x s)
    (hs : subscripted slice false (.ref D) (.int b t) = operate [.ref D, .int b t] (getItem (.ref D) (.int b t)) := by with_unfolding_all rfl)
    (ht : ∀ r, letTemporaryGo value (.ref D) r = pure () := by intro _; with_unfolding_all rfl) :
    wpAny (model prog w) A (subscriptTail value slice (.ref D) (.int b t)) Q E s := by
  have hl := IsL.isList ho
  subst hb
  exact subscriptTail_builtin hl.typeIs slot_list_getitem.lookup (wpAny_getItem_list_neg hl (by (first | lia | omega)) (by simp; (first | lia | omega)) (by (first | lia | omega)) (by rw [Array.size_push, show ((-1 : Int) + ((its.size + 1 : Nat) : Int)).toNat = its.size by (first | lia | omega)]; simp) h) hs ht
theorem append_1st {D : Addr} {its : Array Value} {n : Nat} {x : Value} {rest : List (Addr × Obj)} {Q : Value → Shared → Prop}
    (F : Fr h₀ L s.heap m) (N : News h₀ L s.heap ((D, lstO its n) :: rest)) (hap : ∀ p ∈ rest, p.1 ≠ D) (hsz : its.size ≤ sizeLine)
    (h : ∀ h', Fr h₀ L h' m → News h₀ L h' ((D, lstO (its.push x) (n + 1)) :: rest) → Q .none { s with heap := h' }) :
    wpAny (model prog w) A (call (.builtin "list.append") [.ref D, x]) Q E s :=
  append_to (rest := rest) F N (.head _) (fun p hp => .tail _ hp) hap hsz h
theorem append_3rd {D T P : Addr} {oT : Obj} {vP its : Array Value} {cP n : Nat} {x : Value} {rest : List (Addr × Obj)} {Q : Value → Shared → Prop}
    (F : Fr h₀ L s.heap m) (N : News h₀ L s.heap ((T, oT) :: (P, lstO vP cP) :: (D, lstO its n) :: rest)) (hT : oT ≠ lstO its n) (hP : (@Ne Nat P D)) (hap : ∀ p ∈ rest, p.1 ≠ D) (hsz : its.size ≤ sizeLine)
    (h : ∀ h', Fr h₀ L h' m → News h₀ L h' ((D, lstO (its.push x) (n + 1)) :: (T, oT) :: (P, lstO vP cP) :: rest) → Q .none { s with heap := h' }) :
    wpAny (model prog w) A (call (.builtin "list.append") [.ref D, x]) Q E s := by
  have hTD : T ≠ D := ne_objs N (.head _) (.tail _ (.tail _ (.head _))) hT
  refine append_to (rest := (T, oT) :: (P, lstO vP cP) :: rest) F N (.tail _ (.tail _ (.head _))) (fun p hp => ?_) (fun p hp => ?_) hsz h
  · rcases List.mem_cons.mp hp with rfl | hp
    · exact .head _
    · rcases List.mem_cons.mp hp with rfl | hp
      · exact .tail _ (.head _)
      · exact .tail _ (.tail _ (.tail _ hp))
  · rcases List.mem_cons.mp hp with rfl | hp
    · exact hTD
    · rcases List.mem_cons.mp hp with rfl | hp
      · exact hP
      · exact hap p hp
end
noncomputable def highN (f : Nat) : Nat := f / 121 % 24 + 10
noncomputable def topN (f : Nat) : Nat := f / 2904 % 5
theorem high_eq (f : Nat) : (((f : Nat) : Int).fdiv 121).fmod 24 + 10 = (highN f : Int) := by
  rw [show (121 : Int) = ((121 : Nat) : Int) from rfl, show (24 : Int) = ((24 : Nat) : Int) from rfl, fdivN, fmodN]; rfl
theorem top_eq (f : Nat) : (((f : Nat) : Int).fdiv 2904).fmod 5 - 2 = (topN f : Int) - 2 := by
  rw [show (2904 : Int) = ((2904 : Nat) : Int) from rfl, show (5 : Int) = ((5 : Nat) : Int) from rfl, fdivN, fmodN]; rfl
theorem high_ge (f : Nat) : 10 ≤ highN f ∧ highN f < 34 := by unfold highN; have := Nat.mod_lt (f / 121) (show 0 < 24 by decide); (first | lia | omega)
theorem top_lt (f : Nat) : topN f < 5 := Nat.mod_lt _ (by decide)
end
-- WR4
section
noncomputable def highS (hg : Nat) : PySem.Str := sL (figL ([1, 2, 4, 8].getD (hg % 4) 0) (hg / 4))
noncomputable def topS (t : Nat) : PySem.Str := if t < 2 then sL (45 :: figL (2 - t) 8) else sL (figL (t - 2) 8)
theorem high_txt {hg : Nat} (h : hg < 32) : PySem.Str.ofString "0x" ++ Txt.item (PySem.Str.ofString "1248") ((hg : Int).fmod 4) ++ Txt.mul (PySem.Str.ofString "0") ((hg : Int).fdiv 4) = highS hg := by
  have key : ∀ k, k < 32 → PySem.Str.ofString "0x" ++ Txt.item (PySem.Str.ofString "1248") (((k : Nat) : Int).fmod 4) ++ Txt.mul (PySem.Str.ofString "0") (((k : Nat) : Int).fdiv 4) = highS k := by decide +kernel
  exact key hg h
theorem top_txt1 {t : Nat} (h : (t : Int) - 2 < 0) : PySem.Str.ofString "-0x" ++ Txt.item (PySem.Str.ofString "012") (-((t : Int) - 2)) ++ PySem.Str.ofString "00000000" = topS t := by
  have key : ∀ k, k < 2 → PySem.Str.ofString "-0x" ++ Txt.item (PySem.Str.ofString "012") (-(((k : Nat) : Int) - 2)) ++ PySem.Str.ofString "00000000" = topS k := by decide +kernel
  exact key t (by omega)
theorem top_txt2 {t : Nat} (h : ¬ (t : Int) - 2 < 0) (h5 : t < 5) (h2 : t ≠ 2) : PySem.Str.ofString "0x" ++ Txt.item (PySem.Str.ofString "012") ((t : Int) - 2) ++ PySem.Str.ofString "00000000" = topS t := by
  have key : ∀ k, k < 5 → 2 < k → PySem.Str.ofString "0x" ++ Txt.item (PySem.Str.ofString "012") (((k : Nat) : Int) - 2) ++ PySem.Str.ofString "00000000" = topS k := by decide +kernel
  exact key t h5 (by omega)

set_option maxHeartbeats 4000000 in
theorem drawn_first {w : World} {s s₀ : Shared} {A : Around} {Q : Flow → Shared → Prop} {h₀ : Heap} {L : Addr} {news0 : List (Addr × Obj)} {mg mb m : PySem.Str → Option Value} {f : Nat} {a : Addr} {vsA : Array Value} {cA : Nat} {tf : Tok} (T : Top qv (looseW qv looseX) (ExcName.means s₀.heap) mg mb h₀) (GL : GLt mg mb h₀) (KX : (kF w.params).In h₀) (g : GF w h₀)
    (F : Fr h₀ L s.heap m) (N : News h₀ L s.heap news0) (hA : A.depth ≤ 390) (hU : A.units ≤ 80) (hh : A.handled = none) (ha : h₀.get? a = some (lstO vsA cA)) (hA1 : vsA[((0 : Int)).toNat]? = some (.int (f : Nat) tf)) (mn : m (PySem.Str.ofString "numbers") = some (.ref a))
    (rest : ∀ h tk, Fr h₀ L h (fun y => if y = (PySem.Str.ofString "first") then some (.int (f : Int) tf) else m y) → News h₀ L h news0 → Q .next { s with heap := h, toks := tk }) :
    wpAny (model pw w) (A.deeper (envOf (PySem.Str.ofString "_law_drawn") (fdS 28) L 191 (Value.ref 190))) (exec ((fdB 28).getD 1 dStmt) (envOf (PySem.Str.ofString "_law_drawn") (fdS 28) L 191 (Value.ref 190))) Q (fun _ _ => False) s := by
  conv => pattern List.getD (fdB 28) _ _; whnf
  conv => pattern (occs := *) fdS 28; all_goals whnf
  w_on
  repeat' (first | wrow_close | ((with_reducible show wpAny _ _ (subscriptTail (Expr.Name _ _) (Expr.UnaryOp _ _ _) (Value.ref _) (Value.int _ _)) _ _ _); first | with_reducible (((rename News _ _ _ _ => Nz'); (with_unfolding_all refine last_led (News.get Nz' (.head _)) (by rfl) ?_))) | (((rename News _ _ _ _ => Nz'); (with_unfolding_all refine last_led (News.get Nz' (.head _)) (by rfl) ?_)))) | ((with_reducible show wpAny _ _ (call (Value.builtin "list.append") _) _ _ _); first | with_reducible (((rename Fr _ _ _ _ => Fz'); (rename News _ _ _ _ => Nz'); first | ((with_unfolding_all refine append_1st Fz' Nz' ?ha (by assumption) ?_); (case ha => assumption); (clear Fz' Nz'); intro _ _ _) | ((with_unfolding_all refine append_3rd Fz' Nz' tup_ne (by assumption) ?ha (by assumption) ?_); (case ha => assumption); (clear Fz' Nz'); intro _ _ _))) | (((rename Fr _ _ _ _ => Fz'); (rename News _ _ _ _ => Nz'); first | ((with_unfolding_all refine append_1st Fz' Nz' ?ha (by assumption) ?_); (case ha => assumption); (clear Fz' Nz'); intro _ _ _) | ((with_unfolding_all refine append_3rd Fz' Nz' tup_ne (by assumption) ?ha (by assumption) ?_); (case ha => assumption); (clear Fz' Nz'); intro _ _ _)))) | ((with_reducible show wpAny _ _ (subscriptTail (Expr.Name _ _) (Expr.Constant _ _ _) (Value.ref _) (Value.int _ _)) _ _ _); first | with_reducible (((rename Fr _ _ _ _ => Fz'); (with_unfolding_all refine item_led (Fz'.keep _ _ (by assumption)) (by omega) (by omega) (by assumption) ?_))) | (((rename Fr _ _ _ _ => Fz'); (with_unfolding_all refine item_led (Fz'.keep _ _ (by assumption)) (by omega) (by omega) (by assumption) ?_)))) | walk1 | (dsimp only; walk1) | (leave1; walk_say "STEP leave1"; try dsimp only at *) | fail "no step")
  all_goals rename Fr _ _ _ _ => Fe
  all_goals rename News _ _ _ _ => Ne
  all_goals exact rest _ _ Fe Ne
set_option maxHeartbeats 4000000 in
theorem drawn_high {w : World} {s s₀ : Shared} {A : Around} {Q : Flow → Shared → Prop} {h₀ : Heap} {L : Addr} {news0 : List (Addr × Obj)} {mg mb m : PySem.Str → Option Value} {f : Nat} {tf : Tok} (T : Top qv (looseW qv looseX) (ExcName.means s₀.heap) mg mb h₀) (GL : GLt mg mb h₀) (KX : (kF w.params).In h₀) (g : GF w h₀)
    (F : Fr h₀ L s.heap m) (N : News h₀ L s.heap news0) (hA : A.depth ≤ 390) (hU : A.units ≤ 80) (hh : A.handled = none) (mf : m (PySem.Str.ofString "first") = some (.int (f : Int) tf))
    (rest : ∀ h tk t', Fr h₀ L h (fun y => if y = (PySem.Str.ofString "high") then some (.int (highN f : Int) t') else m y) → News h₀ L h news0 → Q .next { s with heap := h, toks := tk }) :
    wpAny (model pw w) (A.deeper (envOf (PySem.Str.ofString "_law_drawn") (fdS 28) L 191 (Value.ref 190))) (exec ((fdB 28).getD 6 dStmt) (envOf (PySem.Str.ofString "_law_drawn") (fdS 28) L 191 (Value.ref 190))) Q (fun _ _ => False) s := by
  conv => pattern List.getD (fdB 28) _ _; whnf
  conv => pattern (occs := *) fdS 28; all_goals whnf
  w_on
  repeat' (first | wrow_close | ((with_reducible show wpAny _ _ (subscriptTail (Expr.Name _ _) (Expr.UnaryOp _ _ _) (Value.ref _) (Value.int _ _)) _ _ _); first | with_reducible (((rename News _ _ _ _ => Nz'); (with_unfolding_all refine last_led (News.get Nz' (.head _)) (by rfl) ?_))) | (((rename News _ _ _ _ => Nz'); (with_unfolding_all refine last_led (News.get Nz' (.head _)) (by rfl) ?_)))) | ((with_reducible show wpAny _ _ (call (Value.builtin "list.append") _) _ _ _); first | with_reducible (((rename Fr _ _ _ _ => Fz'); (rename News _ _ _ _ => Nz'); first | ((with_unfolding_all refine append_1st Fz' Nz' ?ha (by assumption) ?_); (case ha => assumption); (clear Fz' Nz'); intro _ _ _) | ((with_unfolding_all refine append_3rd Fz' Nz' tup_ne (by assumption) ?ha (by assumption) ?_); (case ha => assumption); (clear Fz' Nz'); intro _ _ _))) | (((rename Fr _ _ _ _ => Fz'); (rename News _ _ _ _ => Nz'); first | ((with_unfolding_all refine append_1st Fz' Nz' ?ha (by assumption) ?_); (case ha => assumption); (clear Fz' Nz'); intro _ _ _) | ((with_unfolding_all refine append_3rd Fz' Nz' tup_ne (by assumption) ?ha (by assumption) ?_); (case ha => assumption); (clear Fz' Nz'); intro _ _ _)))) | ((with_reducible show wpAny _ _ (subscriptTail (Expr.Name _ _) (Expr.Constant _ _ _) (Value.ref _) (Value.int _ _)) _ _ _); first | with_reducible (((rename Fr _ _ _ _ => Fz'); (with_unfolding_all refine item_led (Fz'.keep _ _ (by assumption)) (by omega) (by omega) (by assumption) ?_))) | (((rename Fr _ _ _ _ => Fz'); (with_unfolding_all refine item_led (Fz'.keep _ _ (by assumption)) (by omega) (by omega) (by assumption) ?_)))) | walk1 | (dsimp only; walk1) | (leave1; walk_say "STEP leave1"; try dsimp only at *) | fail "no step")
  rename Fr _ _ _ _ => Fe
  rename News _ _ _ _ => Ne
  rw [high_eq] at Fe
  exact rest _ _ _ Fe Ne
set_option maxHeartbeats 4000000 in
theorem drawn_top {w : World} {s s₀ : Shared} {A : Around} {Q : Flow → Shared → Prop} {h₀ : Heap} {L : Addr} {news0 : List (Addr × Obj)} {mg mb m : PySem.Str → Option Value} {f : Nat} {tf : Tok} (T : Top qv (looseW qv looseX) (ExcName.means s₀.heap) mg mb h₀) (GL : GLt mg mb h₀) (KX : (kF w.params).In h₀) (g : GF w h₀)
    (F : Fr h₀ L s.heap m) (N : News h₀ L s.heap news0) (hA : A.depth ≤ 390) (hU : A.units ≤ 80) (hh : A.handled = none) (mf : m (PySem.Str.ofString "first") = some (.int (f : Int) tf))
    (rest : ∀ h tk t', Fr h₀ L h (fun y => if y = (PySem.Str.ofString "top") then some (.int ((topN f : Int) - 2) t') else m y) → News h₀ L h news0 → Q .next { s with heap := h, toks := tk }) :
    wpAny (model pw w) (A.deeper (envOf (PySem.Str.ofString "_law_drawn") (fdS 28) L 191 (Value.ref 190))) (exec ((fdB 28).getD 8 dStmt) (envOf (PySem.Str.ofString "_law_drawn") (fdS 28) L 191 (Value.ref 190))) Q (fun _ _ => False) s := by
  conv => pattern List.getD (fdB 28) _ _; whnf
  conv => pattern (occs := *) fdS 28; all_goals whnf
  w_on
  repeat' (first | wrow_close | ((with_reducible show wpAny _ _ (subscriptTail (Expr.Name _ _) (Expr.UnaryOp _ _ _) (Value.ref _) (Value.int _ _)) _ _ _); first | with_reducible (((rename News _ _ _ _ => Nz'); (with_unfolding_all refine last_led (News.get Nz' (.head _)) (by rfl) ?_))) | (((rename News _ _ _ _ => Nz'); (with_unfolding_all refine last_led (News.get Nz' (.head _)) (by rfl) ?_)))) | ((with_reducible show wpAny _ _ (call (Value.builtin "list.append") _) _ _ _); first | with_reducible (((rename Fr _ _ _ _ => Fz'); (rename News _ _ _ _ => Nz'); first | ((with_unfolding_all refine append_1st Fz' Nz' ?ha (by assumption) ?_); (case ha => assumption); (clear Fz' Nz'); intro _ _ _) | ((with_unfolding_all refine append_3rd Fz' Nz' tup_ne (by assumption) ?ha (by assumption) ?_); (case ha => assumption); (clear Fz' Nz'); intro _ _ _))) | (((rename Fr _ _ _ _ => Fz'); (rename News _ _ _ _ => Nz'); first | ((with_unfolding_all refine append_1st Fz' Nz' ?ha (by assumption) ?_); (case ha => assumption); (clear Fz' Nz'); intro _ _ _) | ((with_unfolding_all refine append_3rd Fz' Nz' tup_ne (by assumption) ?ha (by assumption) ?_); (case ha => assumption); (clear Fz' Nz'); intro _ _ _)))) | ((with_reducible show wpAny _ _ (subscriptTail (Expr.Name _ _) (Expr.Constant _ _ _) (Value.ref _) (Value.int _ _)) _ _ _); first | with_reducible (((rename Fr _ _ _ _ => Fz'); (with_unfolding_all refine item_led (Fz'.keep _ _ (by assumption)) (by omega) (by omega) (by assumption) ?_))) | (((rename Fr _ _ _ _ => Fz'); (with_unfolding_all refine item_led (Fz'.keep _ _ (by assumption)) (by omega) (by omega) (by assumption) ?_)))) | walk1 | (dsimp only; walk1) | (leave1; walk_say "STEP leave1"; try dsimp only at *) | fail "no step")
  rename Fr _ _ _ _ => Fe
  rename News _ _ _ _ => Ne
  rw [top_eq] at Fe
  exact rest _ _ _ Fe Ne
set_option maxHeartbeats 4000000 in
theorem drawn_hbody {w : World} {s s₀ : Shared} {A : Around} {Q : Flow → Shared → Prop} {h₀ : Heap} {L : Addr} {mg mb m : PySem.Str → Option Value} {hg : Nat} {W : Int} {th tw : Tok} {P Mn : Addr} {vsP vsM : Array Value} {cP cM : Nat} {ts : List (Addr × Obj)} (T : Top qv (looseW qv looseX) (ExcName.means s₀.heap) mg mb h₀) (GL : GLt mg mb h₀) (KX : (kF w.params).In h₀) (g : GF w h₀)
    (F : Fr h₀ L s.heap m) (N : News h₀ L s.heap ((P, lstO vsP cP) :: (Mn, lstO vsM cM) :: ts)) (hA : A.depth ≤ 390) (hU : A.units ≤ 80) (hh : A.handled = none) (hh1 : 10 ≤ hg) (hh2 : hg < 32) (hP2 : vsP.size ≤ sizeLine) (hM2 : vsM.size ≤ sizeLine) (hPM : (@Ne Nat P Mn)) (htP : ∀ p ∈ (Mn, lstO vsM cM) :: ts, p.1 ≠ P) (htM : ∀ p ∈ ts, p.1 ≠ Mn) (mh : m (PySem.Str.ofString "high") = some (.int (hg : Int) th)) (mw : m (PySem.Str.ofString "worth") = some (.int W tw)) (mp : m (PySem.Str.ofString "printed") = some (.ref P)) (mm : m (PySem.Str.ofString "meant") = some (.ref Mn))
    (rest : ∀ h tk D' t1 t2 m', Fr h₀ L h m' → News h₀ L h ((Mn, lstO (vsM.push (.ref D')) (cM + 1)) :: (D', tupO (.str (highS hg) t1) (.int (-1) t2)) :: (P, lstO (vsP.push (.str (highS hg) t1)) (cP + 1)) :: ts) →
      (@Ne Nat D' P) → (@Ne Nat D' Mn) → (∃ tw', m' (PySem.Str.ofString "worth") = some (.int (W + 2 ^ hg) tw')) → (∀ q, q ≠ (PySem.Str.ofString "worth") → m' q = m q) → Q .next { s with heap := h, toks := tk }) :
    wpAny (model pw w) (A.deeper (envOf (PySem.Str.ofString "_law_drawn") (fdS 28) L 191 (Value.ref 190))) (execs (stBody ((fdB 28).getD 7 dStmt)) (envOf (PySem.Str.ofString "_law_drawn") (fdS 28) L 191 (Value.ref 190))) Q (fun _ _ => False) s := by
  conv => pattern stBody _; whnf
  conv => pattern (occs := *) fdS 28; all_goals whnf
  w_on
  have l2 : (PySem.Str.ofString "0x").length = 2 := by rfl
  have l1 : (PySem.Str.ofString "0").length = 1 := by rfl
  have l4 := fdivN hg 4
  rw [show ((4 : Nat) : Int) = 4 from rfl] at l4
  repeat' (first | wrow_close | ((with_reducible show wpAny _ _ (subscriptTail (Expr.Name _ _) (Expr.UnaryOp _ _ _) (Value.ref _) (Value.int _ _)) _ _ _); first | with_reducible (((rename News _ _ _ _ => Nz'); (with_unfolding_all refine last_led (News.get Nz' (.head _)) (by rfl) ?_))) | (((rename News _ _ _ _ => Nz'); (with_unfolding_all refine last_led (News.get Nz' (.head _)) (by rfl) ?_)))) | ((with_reducible show wpAny _ _ (call (Value.builtin "list.append") _) _ _ _); first | with_reducible (((rename Fr _ _ _ _ => Fz'); (rename News _ _ _ _ => Nz'); first | ((with_unfolding_all refine append_1st Fz' Nz' ?ha (by assumption) ?_); (case ha => assumption); (clear Fz' Nz'); intro _ _ _) | ((with_unfolding_all refine append_3rd Fz' Nz' tup_ne (by assumption) ?ha (by assumption) ?_); (case ha => assumption); (clear Fz' Nz'); intro _ _ _))) | (((rename Fr _ _ _ _ => Fz'); (rename News _ _ _ _ => Nz'); first | ((with_unfolding_all refine append_1st Fz' Nz' ?ha (by assumption) ?_); (case ha => assumption); (clear Fz' Nz'); intro _ _ _) | ((with_unfolding_all refine append_3rd Fz' Nz' tup_ne (by assumption) ?ha (by assumption) ?_); (case ha => assumption); (clear Fz' Nz'); intro _ _ _)))) | ((with_reducible show wpAny _ _ (subscriptTail (Expr.Name _ _) (Expr.Constant _ _ _) (Value.ref _) (Value.int _ _)) _ _ _); first | with_reducible (((rename Fr _ _ _ _ => Fz'); (with_unfolding_all refine item_led (Fz'.keep _ _ (by assumption)) (by omega) (by omega) (by assumption) ?_))) | (((rename Fr _ _ _ _ => Fz'); (with_unfolding_all refine item_led (Fz'.keep _ _ (by assumption)) (by omega) (by omega) (by assumption) ?_)))) | walk1 | (dsimp only; walk1) | (leave1; walk_say "STEP leave1"; try dsimp only at *) | fail "no step")
  rename Fr _ _ _ _ => Fe
  rename News _ _ _ _ => Ne
  rename _ ∧ _ ∧ AllLt _ _ => hlt
  rw [high_txt hh2] at Ne
  exact rest _ _ _ _ _ _ Fe Ne (Nat.ne_of_gt hlt.1) (Nat.ne_of_gt hlt.2.1) ⟨_, by rw [Int.toNat_natCast]; rfl⟩ (fun q h1 => by simp only [if_neg h1])
set_option maxHeartbeats 4000000 in
theorem drawn_tbody {w : World} {s s₀ : Shared} {A : Around} {Q : Flow → Shared → Prop} {h₀ : Heap} {L : Addr} {mg mb m : PySem.Str → Option Value} {t : Nat} {W : Int} {th tw : Tok} {P Mn : Addr} {vsP vsM : Array Value} {cP cM : Nat} {ts : List (Addr × Obj)} (T : Top qv (looseW qv looseX) (ExcName.means s₀.heap) mg mb h₀) (GL : GLt mg mb h₀) (KX : (kF w.params).In h₀) (g : GF w h₀)
    (F : Fr h₀ L s.heap m) (N : News h₀ L s.heap ((P, lstO vsP cP) :: (Mn, lstO vsM cM) :: ts)) (hA : A.depth ≤ 390) (hU : A.units ≤ 80) (hh : A.handled = none) (ht : t < 5) (ht2 : t ≠ 2) (hP2 : vsP.size ≤ sizeLine) (hM2 : vsM.size ≤ sizeLine) (hPM : (@Ne Nat P Mn)) (htP : ∀ p ∈ (Mn, lstO vsM cM) :: ts, p.1 ≠ P) (htM : ∀ p ∈ ts, p.1 ≠ Mn) (mh : m (PySem.Str.ofString "top") = some (.int ((t : Int) - 2) th)) (mw : m (PySem.Str.ofString "worth") = some (.int W tw)) (mp : m (PySem.Str.ofString "printed") = some (.ref P)) (mm : m (PySem.Str.ofString "meant") = some (.ref Mn))
    (rest : ∀ h tk D' t1 t2 m', Fr h₀ L h m' → News h₀ L h ((Mn, lstO (vsM.push (.ref D')) (cM + 1)) :: (D', tupO (.str (topS t) t1) (.int (-1) t2)) :: (P, lstO (vsP.push (.str (topS t) t1)) (cP + 1)) :: ts) →
      (@Ne Nat D' P) → (@Ne Nat D' Mn) → (∃ tw', m' (PySem.Str.ofString "worth") = some (.int (W + ((t : Int) - 2) * 4294967296) tw')) → (∀ q, q ≠ (PySem.Str.ofString "worth") → m' q = m q) → Q .next { s with heap := h, toks := tk }) :
    wpAny (model pw w) (A.deeper (envOf (PySem.Str.ofString "_law_drawn") (fdS 28) L 191 (Value.ref 190))) (execs (stBody ((fdB 28).getD 9 dStmt)) (envOf (PySem.Str.ofString "_law_drawn") (fdS 28) L 191 (Value.ref 190))) Q (fun _ _ => False) s := by
  conv => pattern stBody _; whnf
  conv => pattern (occs := *) fdS 28; all_goals whnf
  w_on
  have l2 : (PySem.Str.ofString "0x").length = 2 := by rfl
  have l3 : (PySem.Str.ofString "-0x").length = 3 := by rfl
  have l1 : (PySem.Str.ofString "00000000").length = 8 := by rfl
  repeat' (first | wrow_close | ((with_reducible show wpAny _ _ (subscriptTail (Expr.Name _ _) (Expr.UnaryOp _ _ _) (Value.ref _) (Value.int _ _)) _ _ _); first | with_reducible (((rename News _ _ _ _ => Nz'); (with_unfolding_all refine last_led (News.get Nz' (.head _)) (by rfl) ?_))) | (((rename News _ _ _ _ => Nz'); (with_unfolding_all refine last_led (News.get Nz' (.head _)) (by rfl) ?_)))) | ((with_reducible show wpAny _ _ (call (Value.builtin "list.append") _) _ _ _); first | with_reducible (((rename Fr _ _ _ _ => Fz'); (rename News _ _ _ _ => Nz'); first | ((with_unfolding_all refine append_1st Fz' Nz' ?ha (by assumption) ?_); (case ha => assumption); (clear Fz' Nz'); intro _ _ _) | ((with_unfolding_all refine append_3rd Fz' Nz' tup_ne (by assumption) ?ha (by assumption) ?_); (case ha => assumption); (clear Fz' Nz'); intro _ _ _))) | (((rename Fr _ _ _ _ => Fz'); (rename News _ _ _ _ => Nz'); first | ((with_unfolding_all refine append_1st Fz' Nz' ?ha (by assumption) ?_); (case ha => assumption); (clear Fz' Nz'); intro _ _ _) | ((with_unfolding_all refine append_3rd Fz' Nz' tup_ne (by assumption) ?ha (by assumption) ?_); (case ha => assumption); (clear Fz' Nz'); intro _ _ _)))) | ((with_reducible show wpAny _ _ (subscriptTail (Expr.Name _ _) (Expr.Constant _ _ _) (Value.ref _) (Value.int _ _)) _ _ _); first | with_reducible (((rename Fr _ _ _ _ => Fz'); (with_unfolding_all refine item_led (Fz'.keep _ _ (by assumption)) (by omega) (by omega) (by assumption) ?_))) | (((rename Fr _ _ _ _ => Fz'); (with_unfolding_all refine item_led (Fz'.keep _ _ (by assumption)) (by omega) (by omega) (by assumption) ?_)))) | walk1 | (dsimp only; walk1) | (leave1; walk_say "STEP leave1"; try dsimp only at *) | fail "no step")
  all_goals rename Fr _ _ _ _ => Fe
  all_goals rename News _ _ _ _ => Ne
  all_goals rename _ ∧ _ ∧ AllLt _ _ => hlt
  · rw [top_txt1 (by assumption)] at Ne
    exact rest _ _ _ _ _ _ Fe Ne (Nat.ne_of_gt hlt.1) (Nat.ne_of_gt hlt.2.1) ⟨_, by rw [show (2 : Int) ^ (Int.toNat 32) = 4294967296 by rfl]; rfl⟩ (fun q h1 => by simp only [if_neg h1])
  · rw [top_txt2 (by assumption) ht ht2] at Ne
    exact rest _ _ _ _ _ _ Fe Ne (Nat.ne_of_gt hlt.1) (Nat.ne_of_gt hlt.2.1) ⟨_, by rw [show (2 : Int) ^ (Int.toNat 32) = 4294967296 by rfl]; rfl⟩ (fun q h1 => by simp only [if_neg h1])
end
-- WRB
section
noncomputable def TestEndF (h₀ : Heap) (L : Addr) (m : Str → Option Value) (news : List (Addr × Obj)) (s : Shared) (b : Bool) (c : Bool) (s' : Shared) : Prop := c = b ∧ ∃ h' tk, s' = { s with heap := h', toks := tk } ∧ Fr h₀ L h' m ∧ News h₀ L h' news
theorem If_byF {M : Model} {A : Around} {E : Value → Shared → Prop} {Q : Flow → Shared → Prop} {s : Shared} {env : Env} {st : Stmt} {b : Bool} {h₀ : Heap} {L : Addr} {m : Str → Option Value} {news : List (Addr × Obj)} (hst : isIf st = true)
    (ht : wpAny M A (isTrue (stTest st) env (eval (stTest st) env)) (TestEndF h₀ L m news s b) E s)
    (h1 : b = true → ∀ h' tk, Fr h₀ L h' m → News h₀ L h' news → wpAny M A (execs (stBody st) env) Q E { s with heap := h', toks := tk })
    (h2 : b = false → ∀ h' tk, Fr h₀ L h' m → News h₀ L h' news → wpAny M A (execs (stElse st) env) Q E { s with heap := h', toks := tk }) :
    wpAny M A (exec st env) Q E s := by
  cases st <;> first | cases hst | skip
  refine wpAny_If (wpAny_mono ht (fun c s' h => ?_) fun _ _ e => e)
  obtain ⟨rfl, h', tk, rfl, F, N⟩ := h
  cases c with
  | true => exact h1 rfl h' tk F N
  | false => exact h2 rfl h' tk F N
open PySem PySem.W PyProof.Rows PySem.Calls PySem.Spec PySem.SeqAt
theorem reads_strs {h : Heap} {vs : List Value} {xs : List PySem.Str} (hs : StrsAre vs xs) : ReadsAll h vs (xs.map PyData.str) [] := by
  induction hs with
  | nil => exact .nil
  | cons y t _ ih =>
    have := ReadsAll.cons (Reads.str (h := h) y t) ih
    simpa using this
noncomputable def okStrs (xs : List PySem.Str) : Prop := ∀ x ∈ xs, PyData.strOk x = true
theorem lay_strs (xs : List PySem.Str) (ok : okStrs xs) : PyData.canLayAll0 (xs.map PyData.str) = true := by
  induction xs with
  | nil => simp [PyData.canLayAll0]
  | cons x r ih => simp [PyData.canLayAll0, PyData.canLay0, ih fun y hy => ok y (.tail _ hy), ok x (.head _)]
theorem depth_strs (xs : List PySem.Str) : PyData.depthAll (xs.map PyData.str) ≤ 1 := by
  induction xs with
  | nil => simp [PyData.depthAll]
  | cons x r ih => simp only [List.map_cons, PyData.depthAll, PyData.depth]; (first | lia | omega)
theorem shape_strs (xs : List PySem.Str) (ok : okStrs xs) : shaped (.list (xs.map PyData.str)) = true := by
  have h1 := depth_strs xs
  have h2 : PyData.depth (.list (xs.map PyData.str)) ≤ 64 := by simp only [PyData.depth]; (first | lia | omega)
  have h3 : PyData.canLay0 (.list (xs.map PyData.str)) = true := by simp only [PyData.canLay0]; exact lay_strs xs ok
  unfold shaped
  rw [Bool.and_eq_true]
  exact ⟨h3, decide_eq_true h2⟩
theorem mix_strs : ∀ xs ys : List PySem.Str, noMixAll (xs.map PyData.str) (ys.map PyData.str) = true
  | [], [] => by simp [noMixAll]
  | [], _ :: _ => by simp [noMixAll]
  | _ :: _, [] => by simp [noMixAll]
  | _ :: r, _ :: q => by simp [noMixAll, noMix, mix_strs r q]
theorem same_strs : ∀ xs ys : List PySem.Str, PySem.Spec.sameAll (xs.map PyData.str) (ys.map PyData.str) = decide (xs = ys)
  | [], [] => by simp [PySem.Spec.sameAll]
  | [], _ :: _ => by simp [PySem.Spec.sameAll]
  | _ :: _, [] => by simp [PySem.Spec.sameAll]
  | x :: r, y :: q => by
    simp only [List.map_cons, PySem.Spec.sameAll, PySem.Spec.same, same_strs r q]
    by_cases h : x = y <;> simp [h]
theorem reads_strl {h : Heap} {a : Addr} {vs : Array Value} {n : Nat} {xs : List PySem.Str} (ha : h.get? a = some (lstO vs n)) (hs : StrsAre vs.toList xs) : Reads h (.ref a) (.list (xs.map PyData.str)) [a] :=
  Reads.list ha rfl rfl (by simpa using reads_strs hs)
section
variable {prog : Program} {w : World} {A : Around} {E : Value → Shared → Prop} {s : Shared} {a b : Addr} {vs us : Array Value} {n k : Nat} {xs ys : List PySem.Str} {Q : Value → Shared → Prop}
theorem eq_strl (ha : s.heap.get? a = some (lstO vs n)) (hs : StrsAre vs.toList xs) (hb : s.heap.get? b = some (lstO us k)) (ht : StrsAre us.toList ys) (hu : A.units + 64 < cLine) (o1 : okStrs xs) (o2 : okStrs ys)
    (h : Q (.bool (decide (xs = ys))) s) : wpAny (model prog w) A (compareOp .Eq (.ref a) (.ref b)) Q E s :=
  eq_dataH_same (reads_strl ha hs) (reads_strl hb ht) (shape_strs xs o1) (shape_strs ys o2) hu (by simp only [noMix]; exact mix_strs xs ys) (by simp only [PySem.Spec.same]; rw [same_strs]; exact h)
theorem ne_strl (ha : s.heap.get? a = some (lstO vs n)) (hs : StrsAre vs.toList xs) (hb : s.heap.get? b = some (lstO us k)) (ht : StrsAre us.toList ys) (hu : A.units + 64 < cLine) (o1 : okStrs xs) (o2 : okStrs ys)
    (h : Q (.bool (!decide (xs = ys))) s) : wpAny (model prog w) A (compareOp .NotEq (.ref a) (.ref b)) Q E s :=
  ne_dataH_same (reads_strl ha hs) (reads_strl hb ht) (shape_strs xs o1) (shape_strs ys o2) hu (by simp only [noMix]; exact mix_strs xs ys) (by simp only [PySem.Spec.same]; rw [same_strs]; exact h)
end
end
-- WR5
section
local macro_rules | `(tactic| walk_at "a pad of the join") => `(tactic| fail)
theorem cl_room {A : Around} {env : Env} (h : A.units ≤ 1000) : (A.deeper env).units + 64 < cLine := Nat.lt_of_le_of_lt (Nat.add_le_add_right (Nat.add_le_add_right h 3) 64) (by decide)
local macro_rules | `(tactic| walk_at "compareOp Eq ref ref") => `(tactic| ((rename News _ _ _ _ => N'); (with_unfolding_all refine eq_strl (News.get N' (.tail _ (.head _))) (by assumption) (News.get N' (.head _)) (by first | exact .nil | assumption) (cl_room (Nat.le_trans (by assumption) (by decide))) (by assumption) (by first | (intro _ hq; cases hq) | assumption) ?_)))
theorem top_ne (t : Nat) : ((t : Int) - 2 != 0) = decide (t ≠ 2) := by
  by_cases h : t = 2
  · subst h; rfl
  · rw [decide_eq_true h]; exact bne_iff_ne.mpr (by omega)
theorem isEmpty_dec (xs : List PySem.Str) : decide (xs = []) = xs.isEmpty := by cases xs <;> simp
set_option maxHeartbeats 4000000 in
theorem drawn_t7 {w : World} {s s₀ : Shared} {A : Around} {E : Value → Shared → Prop} {h₀ : Heap} {L : Addr} {mg mb m : PySem.Str → Option Value} {news0 : List (Addr × Obj)} {hg : Nat} {th : Tok} (T : Top qv (looseW qv looseX) (ExcName.means s₀.heap) mg mb h₀) (GL : GLt mg mb h₀) (KX : (kF w.params).In h₀) (g : GF w h₀)
    (F : Fr h₀ L s.heap m) (N : News h₀ L s.heap news0) (hA : A.depth ≤ 390) (hU : A.units ≤ 80) (hh : A.handled = none) (mh : m (PySem.Str.ofString "high") = some (.int (hg : Int) th)) :
    wpAny (model pw w) (A.deeper (envOf (PySem.Str.ofString "_law_drawn") (fdS 28) L 191 (Value.ref 190))) (isTrue (stTest ((fdB 28).getD 7 dStmt)) (envOf (PySem.Str.ofString "_law_drawn") (fdS 28) L 191 (Value.ref 190)) (eval (stTest ((fdB 28).getD 7 dStmt)) (envOf (PySem.Str.ofString "_law_drawn") (fdS 28) L 191 (Value.ref 190)))) (TestEnd s (decide (hg < 32))) E s := by
  conv => pattern (occs := *) stTest _; all_goals whnf
  conv => pattern (occs := *) fdS 28; all_goals whnf
  w_on
  wrow_steps
  exact ⟨by apply decide_eq_decide.mpr; omega, _, rfl⟩
set_option maxHeartbeats 4000000 in
theorem drawn_t9 {w : World} {s s₀ : Shared} {A : Around} {E : Value → Shared → Prop} {h₀ : Heap} {L : Addr} {mg mb m : PySem.Str → Option Value} {news0 : List (Addr × Obj)} {t : Nat} {th : Tok} (T : Top qv (looseW qv looseX) (ExcName.means s₀.heap) mg mb h₀) (GL : GLt mg mb h₀) (KX : (kF w.params).In h₀) (g : GF w h₀)
    (F : Fr h₀ L s.heap m) (N : News h₀ L s.heap news0) (hA : A.depth ≤ 390) (hU : A.units ≤ 80) (hh : A.handled = none) (mh : m (PySem.Str.ofString "top") = some (.int ((t : Int) - 2) th)) :
    wpAny (model pw w) (A.deeper (envOf (PySem.Str.ofString "_law_drawn") (fdS 28) L 191 (Value.ref 190))) (isTrue (stTest ((fdB 28).getD 9 dStmt)) (envOf (PySem.Str.ofString "_law_drawn") (fdS 28) L 191 (Value.ref 190)) (eval (stTest ((fdB 28).getD 9 dStmt)) (envOf (PySem.Str.ofString "_law_drawn") (fdS 28) L 191 (Value.ref 190)))) (TestEnd s (decide (t ≠ 2))) E s := by
  conv => pattern (occs := *) stTest _; all_goals whnf
  conv => pattern (occs := *) fdS 28; all_goals whnf
  w_on
  wrow_steps
  exact ⟨top_ne t, _, rfl⟩
set_option maxHeartbeats 4000000 in
theorem drawn_t10 {w : World} {s s₀ : Shared} {A : Around} {E : Value → Shared → Prop} {h₀ : Heap} {L : Addr} {mg mb m : PySem.Str → Option Value} {P : Addr} {vsP : Array Value} {cP : Nat} {xs : List PySem.Str} {r : List (Addr × Obj)} (T : Top qv (looseW qv looseX) (ExcName.means s₀.heap) mg mb h₀) (GL : GLt mg mb h₀) (KX : (kF w.params).In h₀) (g : GF w h₀)
    (F : Fr h₀ L s.heap m) (N : News h₀ L s.heap ((P, lstO vsP cP) :: r)) (hA : A.depth ≤ 390) (hU : A.units ≤ 80) (hh : A.handled = none) (hs : StrsAre vsP.toList xs) (ok : okStrs xs) (mh : m (PySem.Str.ofString "printed") = some (.ref P)) :
    wpAny (model pw w) (A.deeper (envOf (PySem.Str.ofString "_law_drawn") (fdS 28) L 191 (Value.ref 190))) (isTrue (stTest ((fdB 28).getD 10 dStmt)) (envOf (PySem.Str.ofString "_law_drawn") (fdS 28) L 191 (Value.ref 190)) (eval (stTest ((fdB 28).getD 10 dStmt)) (envOf (PySem.Str.ofString "_law_drawn") (fdS 28) L 191 (Value.ref 190)))) (TestEndF h₀ L m ((P, lstO vsP cP) :: r) s (xs.isEmpty)) E s := by
  conv => pattern (occs := *) stTest _; all_goals whnf
  conv => pattern (occs := *) fdS 28; all_goals whnf
  w_on
  wrow_steps
  rename Fr _ _ _ _ => Fe
  rename News _ _ _ _ => Ne
  exact ⟨isEmpty_dec xs, _, _, rfl, Fe, fun p hp => Ne p (.tail _ hp)⟩
end
-- WRC
section
noncomputable def hX (f : Nat) : List PySem.Str := if highN f < 32 then [highS (highN f)] else []
noncomputable def tX (f : Nat) : List PySem.Str := if topN f ≠ 2 then [topS (topN f)] else []
noncomputable def zX (xs : List PySem.Str) : List PySem.Str := if xs.isEmpty then [sL (figL 0 0)] else []
noncomputable def neg1 (xs : List PySem.Str) : List (PySem.Str × Int) := xs.map fun x => (x, -1)
noncomputable def drawnP0 (f : Nat) : List PySem.Str := (ksN f 10).map flagName ++ hX f ++ tX f
noncomputable def drawnP (f : Nat) : List PySem.Str := drawnP0 f ++ zX (drawnP0 f)
noncomputable def drawnM (f a b : Nat) : List (PySem.Str × Int) := meantK (ksN f 10) a b ++ neg1 (hX f) ++ neg1 (tX f) ++ neg1 (zX (drawnP0 f))
noncomputable def drawnW (f : Nat) : Int := worthK (ksN f 10) + (if highN f < 32 then 2 ^ highN f else 0) + (if topN f ≠ 2 then ((topN f : Int) - 2) * 4294967296 else 0)
theorem zero_is : PySem.Str.ofString "0x0" = sL (figL 0 0) := by kernel_rfl
theorem hX_len (f : Nat) : (hX f).length ≤ 1 := by unfold hX; split <;> simp
theorem tX_len (f : Nat) : (tX f).length ≤ 1 := by unfold tX; split <;> simp
theorem ok_app {xs ys : List PySem.Str} (h : okStrs xs) (k : okStrs ys) : okStrs (xs ++ ys) := fun x hx => (List.mem_append.mp hx).elim (h x) (k x)
theorem ok_high : ∀ k, k < 32 → PyData.strOk (highS k) = true := by decide +kernel
theorem ok_top : ∀ k, k < 5 → PyData.strOk (topS k) = true := by decide +kernel
theorem ok_flag : ∀ k, k < 10 → PyData.strOk (flagName k) = true := by decide +kernel
theorem ks_lt {f n k : Nat} (h : k ∈ ksN f n) : k < n := List.mem_range.mp (List.mem_filter.mp h).1
theorem ok_drawn0 (f : Nat) : okStrs (drawnP0 f) := by
  refine ok_app (ok_app (fun x hx => ?_) fun x hx => ?_) fun x hx => ?_
  · obtain ⟨k, hk, rfl⟩ := List.mem_map.mp hx
    exact ok_flag k (ks_lt hk)
  · unfold hX at hx
    split at hx
    · rw [List.mem_singleton.mp hx]; exact ok_high _ (by assumption)
    · cases hx
  · unfold tX at hx
    split at hx
    · rw [List.mem_singleton.mp hx]; exact ok_top _ (top_lt f)
    · cases hx
theorem ne_both {D P Mn : Addr} {o oM : Obj} {ts : List (Addr × Obj)} (h1 : (@Ne Nat D P)) (h2 : (@Ne Nat D Mn)) (h : ∀ p ∈ ts, p.1 ≠ P ∧ p.1 ≠ Mn) : ∀ p ∈ (D, o) :: ts, p.1 ≠ P ∧ p.1 ≠ Mn := by
  intro p hp
  rcases List.mem_cons.mp hp with rfl | hp
  · exact ⟨h1, h2⟩
  · exact h p hp
theorem led_swap {h₀ h : Heap} {L : Addr} {a b c : Addr × Obj} {ts : List (Addr × Obj)} (N : News h₀ L h (a :: b :: c :: ts)) : News h₀ L h (c :: a :: b :: ts) := fun p hp => N p (by
  simp only [List.mem_cons] at hp ⊢
  rcases hp with e | e | e | e <;> simp [e])
end
-- WR6
section
set_option maxHeartbeats 4000000 in
theorem drawn_zbody {w : World} {s s₀ : Shared} {A : Around} {Q : Flow → Shared → Prop} {h₀ : Heap} {L : Addr} {mg mb m : PySem.Str → Option Value} {P Mn : Addr} {vsP vsM : Array Value} {cP cM : Nat} {ts : List (Addr × Obj)} (T : Top qv (looseW qv looseX) (ExcName.means s₀.heap) mg mb h₀) (GL : GLt mg mb h₀) (KX : (kF w.params).In h₀) (g : GF w h₀)
    (F : Fr h₀ L s.heap m) (N : News h₀ L s.heap ((P, lstO vsP cP) :: (Mn, lstO vsM cM) :: ts)) (hA : A.depth ≤ 390) (hU : A.units ≤ 80) (hh : A.handled = none) (hP2 : vsP.size ≤ sizeLine) (hM2 : vsM.size ≤ sizeLine) (hPM : (@Ne Nat P Mn)) (htP : ∀ p ∈ (Mn, lstO vsM cM) :: ts, p.1 ≠ P) (htM : ∀ p ∈ ts, p.1 ≠ Mn) (mp : m (PySem.Str.ofString "printed") = some (.ref P)) (mm : m (PySem.Str.ofString "meant") = some (.ref Mn))
    (rest : ∀ h tk D' t0 t1 t2, Fr h₀ L h m → News h₀ L h ((Mn, lstO (vsM.push (.ref D')) (cM + 1)) :: (D', tupO (.str (sL (figL 0 0)) t1) (.int (-1) t2)) :: (P, lstO (vsP.push (.str (sL (figL 0 0)) t0)) (cP + 1)) :: ts) →
      (@Ne Nat D' P) → (@Ne Nat D' Mn) → Q .next { s with heap := h, toks := tk }) :
    wpAny (model pw w) (A.deeper (envOf (PySem.Str.ofString "_law_drawn") (fdS 28) L 191 (Value.ref 190))) (execs (stBody ((fdB 28).getD 10 dStmt)) (envOf (PySem.Str.ofString "_law_drawn") (fdS 28) L 191 (Value.ref 190))) Q (fun _ _ => False) s := by
  conv => pattern stBody _; whnf
  conv => pattern (occs := *) fdS 28; all_goals whnf
  w_on
  repeat' (first | wrow_close | ((with_reducible show wpAny _ _ (subscriptTail (Expr.Name _ _) (Expr.UnaryOp _ _ _) (Value.ref _) (Value.int _ _)) _ _ _); first | with_reducible (((rename News _ _ _ _ => Nz'); (with_unfolding_all refine last_led (News.get Nz' (.head _)) (by rfl) ?_))) | (((rename News _ _ _ _ => Nz'); (with_unfolding_all refine last_led (News.get Nz' (.head _)) (by rfl) ?_)))) | ((with_reducible show wpAny _ _ (call (Value.builtin "list.append") _) _ _ _); first | with_reducible (((rename Fr _ _ _ _ => Fz'); (rename News _ _ _ _ => Nz'); first | ((with_unfolding_all refine append_1st Fz' Nz' ?ha (by assumption) ?_); (case ha => assumption); (clear Fz' Nz'); intro _ _ _) | ((with_unfolding_all refine append_3rd Fz' Nz' tup_ne (by assumption) ?ha (by assumption) ?_); (case ha => assumption); (clear Fz' Nz'); intro _ _ _))) | (((rename Fr _ _ _ _ => Fz'); (rename News _ _ _ _ => Nz'); first | ((with_unfolding_all refine append_1st Fz' Nz' ?ha (by assumption) ?_); (case ha => assumption); (clear Fz' Nz'); intro _ _ _) | ((with_unfolding_all refine append_3rd Fz' Nz' tup_ne (by assumption) ?ha (by assumption) ?_); (case ha => assumption); (clear Fz' Nz'); intro _ _ _)))) | ((with_reducible show wpAny _ _ (subscriptTail (Expr.Name _ _) (Expr.Constant _ _ _) (Value.ref _) (Value.int _ _)) _ _ _); first | with_reducible (((rename Fr _ _ _ _ => Fz'); (with_unfolding_all refine item_led (Fz'.keep _ _ (by assumption)) (by omega) (by omega) (by assumption) ?_))) | (((rename Fr _ _ _ _ => Fz'); (with_unfolding_all refine item_led (Fz'.keep _ _ (by assumption)) (by omega) (by omega) (by assumption) ?_)))) | walk1 | (dsimp only; walk1) | (leave1; walk_say "STEP leave1"; try dsimp only at *) | fail "no step")
  all_goals rename Fr _ _ _ _ => Fe
  all_goals rename News _ _ _ _ => Ne
  all_goals rename _ ∧ _ ∧ AllLt _ _ => hlt
  rw [zero_is] at Ne
  exact rest _ _ _ _ _ _ Fe Ne (Nat.ne_of_gt hlt.1) (Nat.ne_of_gt hlt.2.1)
theorem led_swap3 {h₀ h : Heap} {L : Addr} {a b c : Addr × Obj} {ts : List (Addr × Obj)} (N : News h₀ L h (a :: b :: c :: ts)) : News h₀ L h (c :: a :: b :: ts) := led_swap N
set_option maxHeartbeats 4000000 in
theorem drawn_s7 {w : World} {s s₀ : Shared} {A : Around} {Q : Flow → Shared → Prop} {h₀ : Heap} {L : Addr} {mg mb m : PySem.Str → Option Value} {P Mn : Addr} {vsP vsM : Array Value} {cP cM : Nat} {ts : List (Addr × Obj)} {xs : List PySem.Str} {ps : List (PySem.Str × Int)} {W : Int} {tw : Tok} {f : Nat} {th : Tok} (T : Top qv (looseW qv looseX) (ExcName.means s₀.heap) mg mb h₀) (GL : GLt mg mb h₀) (KX : (kF w.params).In h₀) (g : GF w h₀)
    (F : Fr h₀ L s.heap m) (N : News h₀ L s.heap ((P, lstO vsP cP) :: (Mn, lstO vsM cM) :: ts)) (hA : A.depth ≤ 390) (hU : A.units ≤ 80) (hh : A.handled = none) (hsP : StrsAre vsP.toList xs) (hpM : Paired (PairIn ts) ps vsM.toList) (hl1 : xs.length ≤ 20) (hl2 : ps.length ≤ 20) (hPM : (@Ne Nat P Mn)) (hts : ∀ p ∈ ts, p.1 ≠ P ∧ p.1 ≠ Mn) (mp : m (PySem.Str.ofString "printed") = some (.ref P)) (mm : m (PySem.Str.ofString "meant") = some (.ref Mn)) (mw : m (PySem.Str.ofString "worth") = some (.int W tw)) (mh : m (PySem.Str.ofString "high") = some (.int (highN f : Int) th))
    (rest : ∀ h tk vsP' cP' vsM' cM' ts' M, Fr h₀ L h M → News h₀ L h ((P, lstO vsP' cP') :: (Mn, lstO vsM' cM') :: ts') → StrsAre vsP'.toList (xs ++ hX f) → Paired (PairIn ts') (ps ++ neg1 (hX f)) vsM'.toList → (∀ p ∈ ts', p.1 ≠ P ∧ p.1 ≠ Mn) →
      (∃ tt, M (PySem.Str.ofString "worth") = some (.int (W + (if highN f < 32 then 2 ^ highN f else 0)) tt)) → (∀ q, q ≠ (PySem.Str.ofString "worth") → M q = m q) → Q .next { s with heap := h, toks := tk }) :
    wpAny (model pw w) (A.deeper (envOf (PySem.Str.ofString "_law_drawn") (fdS 28) L 191 (Value.ref 190))) (exec ((fdB 28).getD 7 dStmt) (envOf (PySem.Str.ofString "_law_drawn") (fdS 28) L 191 (Value.ref 190))) Q (fun _ _ => False) s := by
  refine If_by rfl (drawn_t7 (L := L) (hg := highN f) T GL KX g F N hA hU hh mh) (fun hc tk => ?_) (fun hc tk => ?_)
  · have hc := of_decide_eq_true hc
    refine drawn_hbody (s := ⟨_, _, _, _, _⟩) (L := L) (hg := highN f) (ts := ts) T GL KX g F N hA hU hh (high_ge f).1 hc (Nat.le_trans (by rw [strs_size hsP]; omega : vsP.size ≤ 20) (by decide)) (Nat.le_trans (by rw [paired_size hpM]; omega : vsM.size ≤ 20) (by decide)) hPM (fun p hp => by
        rcases List.mem_cons.mp hp with rfl | hp
        · exact fun e => hPM e.symm
        · exact (hts p hp).1) (fun p hp => (hts p hp).2) mh mw mp mm ?_
    rintro h tk D' t1 t2 m' F₃ N₃ hDP hDM ⟨tw', mw'⟩ hq
    refine rest _ _ _ _ _ _ _ _ F₃ (led_swap3 N₃) ?_ ?_ (ne_both (oM := tupO .none .none) hDP hDM hts) ⟨tw', ?_⟩ hq
    · rw [hX, if_pos hc]; exact strs_push hsP _ _
    · rw [hX, if_pos hc]; exact pair_snoc hpM
    · rw [mw', if_pos hc]
  · have hc := of_decide_eq_false hc
    refine wpAny_execs_nil ?_
    refine rest _ _ _ _ _ _ _ _ F N ?_ ?_ hts ⟨tw, ?_⟩ (fun q _ => rfl)
    · rw [hX, if_neg hc, List.append_nil]; exact hsP
    · rw [hX, if_neg hc]; simpa [neg1] using hpM
    · rw [mw, if_neg hc, Int.add_zero]
set_option maxHeartbeats 4000000 in
theorem drawn_s9 {w : World} {s s₀ : Shared} {A : Around} {Q : Flow → Shared → Prop} {h₀ : Heap} {L : Addr} {mg mb m : PySem.Str → Option Value} {P Mn : Addr} {vsP vsM : Array Value} {cP cM : Nat} {ts : List (Addr × Obj)} {xs : List PySem.Str} {ps : List (PySem.Str × Int)} {W : Int} {tw : Tok} {f : Nat} {th : Tok} (T : Top qv (looseW qv looseX) (ExcName.means s₀.heap) mg mb h₀) (GL : GLt mg mb h₀) (KX : (kF w.params).In h₀) (g : GF w h₀)
    (F : Fr h₀ L s.heap m) (N : News h₀ L s.heap ((P, lstO vsP cP) :: (Mn, lstO vsM cM) :: ts)) (hA : A.depth ≤ 390) (hU : A.units ≤ 80) (hh : A.handled = none) (hsP : StrsAre vsP.toList xs) (hpM : Paired (PairIn ts) ps vsM.toList) (hl1 : xs.length ≤ 20) (hl2 : ps.length ≤ 20) (hPM : (@Ne Nat P Mn)) (hts : ∀ p ∈ ts, p.1 ≠ P ∧ p.1 ≠ Mn) (mp : m (PySem.Str.ofString "printed") = some (.ref P)) (mm : m (PySem.Str.ofString "meant") = some (.ref Mn)) (mw : m (PySem.Str.ofString "worth") = some (.int W tw)) (mh : m (PySem.Str.ofString "top") = some (.int ((topN f : Int) - 2) th))
    (rest : ∀ h tk vsP' cP' vsM' cM' ts' M, Fr h₀ L h M → News h₀ L h ((P, lstO vsP' cP') :: (Mn, lstO vsM' cM') :: ts') → StrsAre vsP'.toList (xs ++ tX f) → Paired (PairIn ts') (ps ++ neg1 (tX f)) vsM'.toList → (∀ p ∈ ts', p.1 ≠ P ∧ p.1 ≠ Mn) →
      (∃ tt, M (PySem.Str.ofString "worth") = some (.int (W + (if topN f ≠ 2 then ((topN f : Int) - 2) * 4294967296 else 0)) tt)) → (∀ q, q ≠ (PySem.Str.ofString "worth") → M q = m q) → Q .next { s with heap := h, toks := tk }) :
    wpAny (model pw w) (A.deeper (envOf (PySem.Str.ofString "_law_drawn") (fdS 28) L 191 (Value.ref 190))) (exec ((fdB 28).getD 9 dStmt) (envOf (PySem.Str.ofString "_law_drawn") (fdS 28) L 191 (Value.ref 190))) Q (fun _ _ => False) s := by
  refine If_by rfl (drawn_t9 (L := L) (t := topN f) T GL KX g F N hA hU hh mh) (fun hc tk => ?_) (fun hc tk => ?_)
  · have hc := of_decide_eq_true hc
    refine drawn_tbody (s := ⟨_, _, _, _, _⟩) (L := L) (t := topN f) (ts := ts) T GL KX g F N hA hU hh (top_lt f) hc (Nat.le_trans (by rw [strs_size hsP]; omega : vsP.size ≤ 20) (by decide)) (Nat.le_trans (by rw [paired_size hpM]; omega : vsM.size ≤ 20) (by decide)) hPM (fun p hp => by
        rcases List.mem_cons.mp hp with rfl | hp
        · exact fun e => hPM e.symm
        · exact (hts p hp).1) (fun p hp => (hts p hp).2) mh mw mp mm ?_
    rintro h tk D' t1 t2 m' F₃ N₃ hDP hDM ⟨tw', mw'⟩ hq
    refine rest _ _ _ _ _ _ _ _ F₃ (led_swap3 N₃) ?_ ?_ (ne_both (oM := tupO .none .none) hDP hDM hts) ⟨tw', ?_⟩ hq
    · rw [tX, if_pos hc]; exact strs_push hsP _ _
    · rw [tX, if_pos hc]; exact pair_snoc hpM
    · rw [mw', if_pos hc]
  · have hc := of_decide_eq_false hc
    refine wpAny_execs_nil ?_
    refine rest _ _ _ _ _ _ _ _ F N ?_ ?_ hts ⟨tw, ?_⟩ (fun q _ => rfl)
    · rw [tX, if_neg hc, List.append_nil]; exact hsP
    · rw [tX, if_neg hc]; simpa [neg1] using hpM
    · rw [mw, if_neg hc, Int.add_zero]
end
-- WR7
section
local macro_rules | `(tactic| walk_at "eval Constant int") => `(tactic| refine cint ?_)
theorem names_at {t0 t1 t2 t3 t4 t5 t6 t7 t8 t9 : Tok} : ∀ k, k < 10 → ∃ tN, (#[Value.str (PySem.Str.ofString "OPTIMIZED") t0, Value.str (PySem.Str.ofString "NEWLOCALS") t1, Value.str (PySem.Str.ofString "VARARGS") t2, Value.str (PySem.Str.ofString "VARKEYWORDS") t3, Value.str (PySem.Str.ofString "NESTED") t4, Value.str (PySem.Str.ofString "GENERATOR") t5, Value.str (PySem.Str.ofString "NOFREE") t6, Value.str (PySem.Str.ofString "COROUTINE") t7, Value.str (PySem.Str.ofString "ITERABLE_COROUTINE") t8, Value.str (PySem.Str.ofString "ASYNC_GENERATOR") t9] : Array Value)[k]? = some (.str (flagName k) tN) := by
  intro k hk
  match k, hk with
  | 0, _ => exact ⟨t0, by rw [show flagName 0 = PySem.Str.ofString "OPTIMIZED" by kernel_rfl]; rfl⟩
  | 1, _ => exact ⟨t1, by rw [show flagName 1 = PySem.Str.ofString "NEWLOCALS" by kernel_rfl]; rfl⟩
  | 2, _ => exact ⟨t2, by rw [show flagName 2 = PySem.Str.ofString "VARARGS" by kernel_rfl]; rfl⟩
  | 3, _ => exact ⟨t3, by rw [show flagName 3 = PySem.Str.ofString "VARKEYWORDS" by kernel_rfl]; rfl⟩
  | 4, _ => exact ⟨t4, by rw [show flagName 4 = PySem.Str.ofString "NESTED" by kernel_rfl]; rfl⟩
  | 5, _ => exact ⟨t5, by rw [show flagName 5 = PySem.Str.ofString "GENERATOR" by kernel_rfl]; rfl⟩
  | 6, _ => exact ⟨t6, by rw [show flagName 6 = PySem.Str.ofString "NOFREE" by kernel_rfl]; rfl⟩
  | 7, _ => exact ⟨t7, by rw [show flagName 7 = PySem.Str.ofString "COROUTINE" by kernel_rfl]; rfl⟩
  | 8, _ => exact ⟨t8, by rw [show flagName 8 = PySem.Str.ofString "ITERABLE_COROUTINE" by kernel_rfl]; rfl⟩
  | 9, _ => exact ⟨t9, by rw [show flagName 9 = PySem.Str.ofString "ASYNC_GENERATOR" by kernel_rfl]; rfl⟩
theorem led_rev {h₀ h : Heap} {L : Addr} {a b c : Addr × Obj} {ts : List (Addr × Obj)} (N : News h₀ L h (a :: b :: c :: ts)) : News h₀ L h (b :: a :: c :: ts) := fun p hp => N p (by
  simp only [List.mem_cons] at hp ⊢
  rcases hp with e | e | e | e <;> simp [e])
set_option maxHeartbeats 4000000 in
theorem drawn_s10 {w : World} {s s₀ : Shared} {A : Around} {Q : Flow → Shared → Prop} {h₀ : Heap} {L : Addr} {mg mb m : PySem.Str → Option Value} {P Mn : Addr} {vsP vsM : Array Value} {cP cM : Nat} {ts : List (Addr × Obj)} {xs : List PySem.Str} {ps : List (PySem.Str × Int)} {W : Int} {tw : Tok} (T : Top qv (looseW qv looseX) (ExcName.means s₀.heap) mg mb h₀) (GL : GLt mg mb h₀) (KX : (kF w.params).In h₀) (g : GF w h₀)
    (F : Fr h₀ L s.heap m) (N : News h₀ L s.heap ((P, lstO vsP cP) :: (Mn, lstO vsM cM) :: ts)) (hA : A.depth ≤ 390) (hU : A.units ≤ 80) (hh : A.handled = none) (hsP : StrsAre vsP.toList xs) (hpM : Paired (PairIn ts) ps vsM.toList) (hl1 : xs.length ≤ 20) (hl2 : ps.length ≤ 20) (hPM : (@Ne Nat P Mn)) (hts : ∀ p ∈ ts, p.1 ≠ P ∧ p.1 ≠ Mn) (mp : m (PySem.Str.ofString "printed") = some (.ref P)) (mm : m (PySem.Str.ofString "meant") = some (.ref Mn)) (mw : m (PySem.Str.ofString "worth") = some (.int W tw)) (ok : okStrs xs)
    (rest : ∀ h tk vsP' cP' vsM' cM' ts' M, Fr h₀ L h M → News h₀ L h ((P, lstO vsP' cP') :: (Mn, lstO vsM' cM') :: ts') → StrsAre vsP'.toList (xs ++ zX xs) → Paired (PairIn ts') (ps ++ neg1 (zX xs)) vsM'.toList → (∀ p ∈ ts', p.1 ≠ P ∧ p.1 ≠ Mn) →
      (∃ tt, M (PySem.Str.ofString "worth") = some (.int (W) tt)) → (∀ q,  M q = m q) → Q .next { s with heap := h, toks := tk }) :
    wpAny (model pw w) (A.deeper (envOf (PySem.Str.ofString "_law_drawn") (fdS 28) L 191 (Value.ref 190))) (exec ((fdB 28).getD 10 dStmt) (envOf (PySem.Str.ofString "_law_drawn") (fdS 28) L 191 (Value.ref 190))) Q (fun _ _ => False) s := by
  refine If_byF rfl (drawn_t10 (L := L) (r := (Mn, lstO vsM cM) :: ts) T GL KX g F N hA hU hh hsP ok mp) (fun hc h tk F N => ?_) (fun hc h tk F N => ?_)
  · refine drawn_zbody (s := ⟨_, _, _, _, _⟩) (L := L) (ts := ts) T GL KX g F N hA hU hh (Nat.le_trans (by rw [strs_size hsP]; (first | lia | omega) : vsP.size ≤ 20) (by decide)) (Nat.le_trans (by rw [paired_size hpM]; (first | lia | omega) : vsM.size ≤ 20) (by decide)) hPM (fun p hp => by
        rcases List.mem_cons.mp hp with rfl | hp
        · exact fun e => hPM e.symm
        · exact (hts p hp).1) (fun p hp => (hts p hp).2) mp mm ?_
    rintro h tk D' t0 t1 t2 F₃ N₃ hDP hDM
    refine rest _ _ _ _ _ _ _ _ F₃ (led_swap N₃) ?_ ?_ (ne_both (oM := tupO .none .none) hDP hDM hts) ⟨_, mw⟩ (fun q => rfl)
    · rw [zX, if_pos hc]; exact strs_push hsP _ _
    · rw [zX, if_pos hc]; exact pair_snoc hpM
  · refine wpAny_execs_nil ?_
    refine rest _ _ _ _ _ _ _ _ F N ?_ ?_ hts ⟨tw, mw⟩ (fun q => rfl)
    · rw [zX, hc, if_neg (by decide), List.append_nil]; exact hsP
    · rw [zX, hc, if_neg (by decide)]; simpa [neg1] using hpM
set_option maxHeartbeats 4000000 in
theorem drawn_ret {w : World} {s s₀ : Shared} {A : Around} {Q : Flow → Shared → Prop} {h₀ : Heap} {L : Addr} {mg mb m : PySem.Str → Option Value} {P Mn : Addr} {vsP vsM : Array Value} {cP cM : Nat} {ts : List (Addr × Obj)} {W : Int} {tw : Tok} (T : Top qv (looseW qv looseX) (ExcName.means s₀.heap) mg mb h₀) (GL : GLt mg mb h₀) (KX : (kF w.params).In h₀) (g : GF w h₀)
    (F : Fr h₀ L s.heap m) (N : News h₀ L s.heap ((P, lstO vsP cP) :: (Mn, lstO vsM cM) :: ts)) (hA : A.depth ≤ 390) (hU : A.units ≤ 80) (hh : A.handled = none) (mp : m (PySem.Str.ofString "printed") = some (.ref P)) (mm : m (PySem.Str.ofString "meant") = some (.ref Mn)) (mw : m (PySem.Str.ofString "worth") = some (.int W tw))
    (rest : ∀ h tk Tt, Fr h₀ L h m → News h₀ L h ((Tt, { cls := .type "tuple", data := .seq #[.int W tw, .ref P, .ref Mn] }) :: ((P, lstO vsP cP) :: (Mn, lstO vsM cM) :: ts)) → Q (.ret (.ref Tt)) { s with heap := h, toks := tk }) :
    wpAny (model pw w) (A.deeper (envOf (PySem.Str.ofString "_law_drawn") (fdS 28) L 191 (Value.ref 190))) (exec ((fdB 28).getD 11 dStmt) (envOf (PySem.Str.ofString "_law_drawn") (fdS 28) L 191 (Value.ref 190))) Q (fun _ _ => False) s := by
  conv => pattern List.getD (fdB 28) _ _; whnf
  conv => pattern (occs := *) fdS 28; all_goals whnf
  w_on
  repeat' (first | wrow_close | ((with_reducible show wpAny _ _ (subscriptTail (Expr.Name _ _) (Expr.UnaryOp _ _ _) (Value.ref _) (Value.int _ _)) _ _ _); first | with_reducible (((rename News _ _ _ _ => Nz'); (with_unfolding_all refine last_led (News.get Nz' (.head _)) (by rfl) ?_))) | (((rename News _ _ _ _ => Nz'); (with_unfolding_all refine last_led (News.get Nz' (.head _)) (by rfl) ?_)))) | ((with_reducible show wpAny _ _ (call (Value.builtin "list.append") _) _ _ _); first | with_reducible (((rename Fr _ _ _ _ => Fz'); (rename News _ _ _ _ => Nz'); first | ((with_unfolding_all refine append_1st Fz' Nz' ?ha (by assumption) ?_); (case ha => assumption); (clear Fz' Nz'); intro _ _ _) | ((with_unfolding_all refine append_3rd Fz' Nz' tup_ne (by assumption) ?ha (by assumption) ?_); (case ha => assumption); (clear Fz' Nz'); intro _ _ _))) | (((rename Fr _ _ _ _ => Fz'); (rename News _ _ _ _ => Nz'); first | ((with_unfolding_all refine append_1st Fz' Nz' ?ha (by assumption) ?_); (case ha => assumption); (clear Fz' Nz'); intro _ _ _) | ((with_unfolding_all refine append_3rd Fz' Nz' tup_ne (by assumption) ?ha (by assumption) ?_); (case ha => assumption); (clear Fz' Nz'); intro _ _ _)))) | ((with_reducible show wpAny _ _ (subscriptTail (Expr.Name _ _) (Expr.Constant _ _ _) (Value.ref _) (Value.int _ _)) _ _ _); first | with_reducible (((rename Fr _ _ _ _ => Fz'); (with_unfolding_all refine item_led (Fz'.keep _ _ (by assumption)) (by (first | lia | omega)) (by (first | lia | omega)) (by assumption) ?_))) | (((rename Fr _ _ _ _ => Fz'); (with_unfolding_all refine item_led (Fz'.keep _ _ (by assumption)) (by (first | lia | omega)) (by (first | lia | omega)) (by assumption) ?_)))) | walk1 | (dsimp only; walk1) | (leave1; walk_say "STEP leave1"; try dsimp only at *) | fail "no step")
  rename Fr _ _ _ _ => Fe
  rename News _ _ _ _ => Ne
  exact rest _ _ _ Fe Ne
set_option maxHeartbeats 4000000 in
theorem drawn_loop2 {w : World} {s s₀ : Shared} {A : Around} {Q : Flow → Shared → Prop} {h₀ : Heap} {L : Addr} {mg mb m : PySem.Str → Option Value} {f n1 n2 n3 n4 : Nat} {tf tw : Tok} {a P Mn Nm : Addr} {vsN vsA : Array Value} {cP cM cN cA : Nat} (T : Top qv (looseW qv looseX) (ExcName.means s₀.heap) mg mb h₀) (GL : GLt mg mb h₀) (KX : (kF w.params).In h₀) (g : GF w h₀)
    (F : Fr h₀ L s.heap m) (N : News h₀ L s.heap ((Mn, lstO #[] cM) :: (P, lstO #[] cP) :: (Nm, lstO vsN cN) :: [])) (hA : A.depth ≤ 390) (hU : A.units ≤ 80) (hh : A.handled = none) (hn1 : n1 < 1000000) (hn2 : n2 < 1000000) (hl0 : @LT.lt Nat _ Nm P) (hl1 : (@LT.lt Nat _ P Mn) ∧ (@LT.lt Nat _ Nm Mn)) (hN : ∀ k, k < 10 → ∃ tN, vsN[k]? = some (.str (flagName k) tN)) (ha : h₀.get? a = some (lstO vsA cA)) (hA1 : IntsAre vsA.toList ([f, n1, n2, n3, n4].map fun (n : Nat) => (n : Int))) (mw : m (PySem.Str.ofString "worth") = some (.int 0 tw)) (mfirst : m (PySem.Str.ofString "first") = some (.int (f : Int) tf)) (mprinted : m (PySem.Str.ofString "printed") = some (.ref P)) (mmeant : m (PySem.Str.ofString "meant") = some (.ref Mn)) (mnames : m (PySem.Str.ofString "names") = some (.ref Nm)) (mnumbers : m (PySem.Str.ofString "numbers") = some (.ref a))
    (rest : ∀ h tk vsP' cP' vsM' cM' ts' M, Fr h₀ L h M → News h₀ L h ((P, lstO vsP' cP') :: (Mn, lstO vsM' cM') :: (Nm, lstO vsN cN) :: ts') → StrsAre vsP'.toList ((ksN f 10).map flagName) → Paired (PairIn ts') (meantK (ksN f 10) n1 n2) vsM'.toList → (∀ p ∈ ts', p.1 ≠ P ∧ p.1 ≠ Mn) → (∃ tt, M (PySem.Str.ofString "worth") = some (.int (worthK (ksN f 10)) tt)) → M (PySem.Str.ofString "first") = some (.int (f : Int) tf) ∧ M (PySem.Str.ofString "printed") = some (.ref P) ∧ M (PySem.Str.ofString "meant") = some (.ref Mn) ∧ M (PySem.Str.ofString "names") = some (.ref Nm) ∧ M (PySem.Str.ofString "numbers") = some (.ref a) → Q .next { s with heap := h, toks := tk }) :
    wpAny (model pw w) (A.deeper (envOf (PySem.Str.ofString "_law_drawn") (fdS 28) L 191 (Value.ref 190))) (exec ((fdB 28).getD 5 dStmt) (envOf (PySem.Str.ofString "_law_drawn") (fdS 28) L 191 (Value.ref 190))) Q (fun _ _ => False) s := by
  exact drawn_loop T GL KX g F (led_rev N) hA hU hh hn1 hn2 (Nat.ne_of_lt hl1.1) (Nat.ne_of_lt hl0) (Nat.ne_of_lt hl1.2) hN ha hA1 mw mfirst mprinted mmeant mnames mnumbers rest
set_option maxHeartbeats 4000000 in
theorem drawn_c0 {w : World} {s : Shared} {A : Around} {Q : Value → Shared → Prop} {E : Value → Shared → Prop} {a : Addr} {vsA : Array Value} {cA : Nat} {f n1 n2 n3 n4 : Nat} (g : GF w s.heap) (hA : A.depth ≤ 390) (hU : A.units ≤ 80) (hh : A.handled = none) (ha : s.heap.get? a = some (lstO vsA cA)) (hA1 : IntsAre vsA.toList ([f, n1, n2, n3, n4].map fun (n : Nat) => (n : Int))) (hn1 : n1 < 1000000) (hn2 : n2 < 1000000)
    (ret : ∀ Tt tw P vsP cP Mn vsM cM ts h' tk', Kp s.heap h' → (∀ p ∈ (Tt, ({ cls := .type "tuple", data := .seq #[.int (drawnW f) tw, .ref P, .ref Mn] } : Obj)) :: (P, lstO vsP cP) :: (Mn, lstO vsM cM) :: ts, h'.get? p.1 = some p.2 ∧ s.heap.get? p.1 = none) → (@Ne Nat P Mn) → (∀ p ∈ ts, p.1 ≠ P ∧ p.1 ≠ Mn) → StrsAre vsP.toList (drawnP f) → Paired (PairIn ts) (drawnM f n1 n2) vsM.toList → Q (.ref Tt) { s with heap := h', toks := tk' }) :
    wpAny (model pw w) A (call (.ref 191) [.ref a]) Q E s := by
  obtain ⟨o, ho, hd, hcd⟩ := fn_at g (k_lawdrawn _) (c_lawdrawn _)
  obtain ⟨s₀, mg, mb, T, GL, KX⟩ := g.open
  conv at hd => pattern fdB 28; whnf
  conv at hd => pattern fdP 28; whnf
  conv at hd => pattern fdS 28; whnf
  refine wpAny_call (call_pos_ret (Nat.lt_of_le_of_lt hA (by decide)) ho hd GL.nolimit hcd (by rfl) (locs (by rfl)) (fun h₁ F => ?_))
  clear hd ho hcd
  dsimp only [List.map, List.zip, List.zipWith]
  have N := News.nil (h₀ := s.heap) (h := h₁) (L := s.heap.objs.size)
  w_on
  obtain ⟨tf, hA0⟩ := num_at hA1 (i := 0) (by simp)
  have hA0 : vsA[((0 : Int)).toNat]? = some (.int (f : Nat) tf) := hA0
  refine wpAny_execs_cons ?_
  repeat' (first | wrow_close | ((with_reducible show wpAny _ _ (subscriptTail (Expr.Name _ _) (Expr.UnaryOp _ _ _) (Value.ref _) (Value.int _ _)) _ _ _); first | with_reducible (((rename News _ _ _ _ => Nz'); (with_unfolding_all refine last_led (News.get Nz' (.head _)) (by rfl) ?_))) | (((rename News _ _ _ _ => Nz'); (with_unfolding_all refine last_led (News.get Nz' (.head _)) (by rfl) ?_)))) | ((with_reducible show wpAny _ _ (call (Value.builtin "list.append") _) _ _ _); first | with_reducible (((rename Fr _ _ _ _ => Fz'); (rename News _ _ _ _ => Nz'); first | ((with_unfolding_all refine append_1st Fz' Nz' ?ha (by assumption) ?_); (case ha => assumption); (clear Fz' Nz'); intro _ _ _) | ((with_unfolding_all refine append_3rd Fz' Nz' tup_ne (by assumption) ?ha (by assumption) ?_); (case ha => assumption); (clear Fz' Nz'); intro _ _ _))) | (((rename Fr _ _ _ _ => Fz'); (rename News _ _ _ _ => Nz'); first | ((with_unfolding_all refine append_1st Fz' Nz' ?ha (by assumption) ?_); (case ha => assumption); (clear Fz' Nz'); intro _ _ _) | ((with_unfolding_all refine append_3rd Fz' Nz' tup_ne (by assumption) ?ha (by assumption) ?_); (case ha => assumption); (clear Fz' Nz'); intro _ _ _)))) | ((with_reducible show wpAny _ _ (subscriptTail (Expr.Name _ _) (Expr.Constant _ _ _) (Value.ref _) (Value.int _ _)) _ _ _); first | with_reducible (((rename Fr _ _ _ _ => Fz'); (with_unfolding_all refine item_led (Fz'.keep _ _ (by assumption)) (by (first | lia | omega)) (by (first | lia | omega)) (by assumption) ?_))) | (((rename Fr _ _ _ _ => Fz'); (with_unfolding_all refine item_led (Fz'.keep _ _ (by assumption)) (by (first | lia | omega)) (by (first | lia | omega)) (by assumption) ?_)))) | walk1 | (dsimp only; walk1) | (leave1; walk_say "STEP leave1"; try dsimp only at *) | fail "no step")
  refine Halt.on ?_
  rename Fr _ _ _ _ => Fe
  rename News _ _ _ _ => Ne
  rename @LT.lt Nat _ _ _ ∧ _ => hl1
  rename @LT.lt Nat _ _ _ => hl0
  obtain ⟨M, hM, FM⟩ := Fr.pack Fe
  have mw : (∃ tt, M (PySem.Str.ofString "worth") = some (.int 0 tt)) := by rw [hM]; exact ⟨_, rfl⟩
  obtain ⟨_, mw⟩ := mw
  refine drawn_loop2 (s := ⟨_, _, _, _, _⟩) (L := s.heap.objs.size) (n1 := n1) (n2 := n2) (n3 := n3) (n4 := n4) (f := f) (tf := tf) (a := a) (vsA := vsA) T GL KX g FM Ne hA hU hh hn1 hn2 hl0 hl1 names_at ha hA1 mw (by rw [hM]; rfl) (by rw [hM]; rfl) (by rw [hM]; rfl) (by rw [hM]; rfl) (by rw [hM]; rfl) ?_
  clear FM Fe mw hM Ne
  rintro h tk vsP cP vsM cM ts M F₁ N₁ hsP hpM hts ⟨_, mw⟩ ⟨mfirst, mprinted, mmeant, mnames, mnumbers⟩
  dsimp only
  have hlp : ((ksN f 10).map flagName).length ≤ 2 := by rw [List.length_map]; exact ks_two f 10 (by decide)
  have hlm := meantK_len (ksN f 10) n1 n2
  have hhx := hX_len f
  have htx := tX_len f
  refine wpAny_execs_cons ?_
  refine drawn_high (s := ⟨_, _, _, _, _⟩) (L := s.heap.objs.size) T GL KX g F₁ N₁ hA hU hh mfirst ?_
  rintro h tk th F₂ N₂
  dsimp only
  refine wpAny_execs_cons ?_
  refine drawn_s7 (s := ⟨_, _, _, _, _⟩) (L := s.heap.objs.size) (th := th) T GL KX g F₂ N₂ hA hU hh hsP (pair_more hpM) (by (first | lia | omega)) (by (first | lia | omega)) (Nat.ne_of_lt hl1.1) (ne_both (oM := tupO .none .none) (Nat.ne_of_lt hl0) (Nat.ne_of_lt hl1.2) hts) mprinted mmeant mw rfl ?_
  clear F₂ N₂ F₁ N₁
  rintro h tk vsP1 cP1 vsM1 cM1 ts1 M1 F₁ N₁ hsP1 hpM1 hts1 ⟨_, mw1⟩ hq1
  have mfirst1 := (hq1 (PySem.Str.ofString "first") (by decide)).trans mfirst
  have mprinted1 := (hq1 (PySem.Str.ofString "printed") (by decide)).trans mprinted
  have mmeant1 := (hq1 (PySem.Str.ofString "meant") (by decide)).trans mmeant
  clear hq1 mfirst mprinted mmeant mw mnames mnumbers
  dsimp only
  refine wpAny_execs_cons ?_
  refine drawn_top (s := ⟨_, _, _, _, _⟩) (L := s.heap.objs.size) T GL KX g F₁ N₁ hA hU hh mfirst1 ?_
  rintro h tk th2 F₂ N₂
  dsimp only
  refine wpAny_execs_cons ?_
  refine drawn_s9 (s := ⟨_, _, _, _, _⟩) (L := s.heap.objs.size) (th := th2) T GL KX g F₂ N₂ hA hU hh hsP1 hpM1 (by rw [List.length_append]; (first | lia | omega)) (by unfold neg1; rw [List.length_append, List.length_map]; (first | lia | omega)) (Nat.ne_of_lt hl1.1) hts1 mprinted1 mmeant1 mw1 rfl ?_
  clear F₂ N₂ F₁ N₁
  rintro h tk vsP2 cP2 vsM2 cM2 ts2 M2 F₁ N₁ hsP2 hpM2 hts2 ⟨_, mw2⟩ hq2
  have mprinted2 := (hq2 (PySem.Str.ofString "printed") (by decide)).trans mprinted1
  have mmeant2 := (hq2 (PySem.Str.ofString "meant") (by decide)).trans mmeant1
  clear hq2 mfirst1 mprinted1 mmeant1 mw1
  dsimp only
  refine wpAny_execs_cons ?_
  refine drawn_s10 (s := ⟨_, _, _, _, _⟩) (L := s.heap.objs.size) T GL KX g F₁ N₁ hA hU hh hsP2 hpM2 (by rw [List.length_append, List.length_append]; (first | lia | omega)) (by unfold neg1; rw [List.length_append, List.length_append, List.length_map, List.length_map]; (first | lia | omega)) (Nat.ne_of_lt hl1.1) hts2 mprinted2 mmeant2 mw2 (ok_drawn0 f) ?_
  clear F₁ N₁
  rintro h tk vsP3 cP3 vsM3 cM3 ts3 M3 F₁ N₁ hsP3 hpM3 hts3 ⟨_, mw3⟩ hq3
  have mprinted3 := (hq3 (PySem.Str.ofString "printed")).trans mprinted2
  have mmeant3 := (hq3 (PySem.Str.ofString "meant")).trans mmeant2
  dsimp only
  refine wpAny_execs_cons ?_
  refine drawn_ret (s := ⟨_, _, _, _, _⟩) (L := s.heap.objs.size) T GL KX g F₁ N₁ hA hU hh mprinted3 mmeant3 mw3 ?_
  rintro h tk Tt F₂ N₂
  exact ret _ _ _ _ _ _ _ _ _ _ _ (Fr.keep F₂) (fun p hp => ⟨(N₂ p hp).1, (N₂ p hp).2.2⟩) (Nat.ne_of_lt hl1.1) hts3 hsP3 hpM3
end
section
local macro_rules | `(tactic| walk_at "eval Name") => `(tactic| ((with_reducible show wpAny _ _ (eval (Expr.Name _ _) (envOfC _ _ _ _ _)) _ _ _); (name_kind "globalImplicit"); (rename Fr _ _ _ _ => F'); with_unfolding_all refine nameX_K F' (by assumption) (topRead_of (by assumption)) (by walk_at "own n") ?_))
local macro_rules | `(tactic| walk_at "eval Name") => `(tactic| ((with_reducible show wpAny _ _ (eval (Expr.Name _ _) (envOfC _ _ _ _ _)) _ _ _); (name_kind "local"); (rename Fr _ _ _ _ => F'); with_unfolding_all refine nameX_L F' (by assumption) ?_))
local macro_rules | `(tactic| walk_at "loadName") => `(tactic| ((with_reducible show wpAny _ _ (loadName (envOfC _ _ _ _ _) _) _ _ _); (rename Fr _ _ _ _ => F'); with_unfolding_all refine ldnLoc F' (by assumption) ?_))
local macro_rules | `(tactic| walk_at "eval Name") => `(tactic| ((with_reducible show wpAny _ _ (eval (Expr.Name _ _) (compEnvC _ _ _ _)) _ _ _); (rename Fr _ _ _ _ => F'); with_unfolding_all refine LCgL.ld_global F' (by assumption) (by assumption) (by walk_at "own n") ?_))
local macro_rules | `(tactic| walk_at "eval Name") => `(tactic| ((with_reducible show wpAny _ _ (eval (Expr.Name _ _) (compEnvC _ _ _ _)) _ _ _); (rename News _ _ _ _ => N'); (rename LCg.NsObj _ _ => C'); (with_unfolding_all refine LCgL.ld_own N' (.tail _ (.head _)) C' (by assumption) ?_)))
local macro_rules | `(tactic| walk_at "eval ListComp") => `(tactic| refine Halt.go ?_)
local macro_rules | `(tactic| walk_at "exec Assign cons ListComp") => `(tactic| refine Halt.go ?_)
-- WLa
section
noncomputable def numsL (ns : List Int) : List Nat := (ns.take 5).map (fun a => (a.fmod 1000000).toNat) ++ [5878, 9, 963, 7, 123456].drop (ns.take 5).length
theorem nums_eq (ns : List Int) : (ns.take 5).map (fun a => a.fmod 1000000) ++ ([5878, 9, 963, 7, 123456] : List Int).drop ((((ns.take 5).length : Nat) : Int)).toNat = (numsL ns).map fun (n : Nat) => (n : Int) := by
  unfold numsL
  rw [List.map_append, List.map_map, Int.toNat_natCast]
  congr 1
  · apply List.map_congr_left
    intro a _
    have : 0 ≤ a.fmod 1000000 := by rw [Int.fmod_eq_emod_of_nonneg _ (by decide)]; exact Int.emod_nonneg _ (by decide)
    show _ = (((a.fmod 1000000).toNat : Nat) : Int)
    (first | lia | omega)
  · rw [List.map_drop]; rfl
theorem nums_app {ys : List Value} {ns : List Int} {t0 t1 t2 t3 t4 : Tok} (h : IntsAre ys ((ns.take 5).map fun a => a.fmod 1000000)) :
    IntsAre (ys.toArray ++ slicePick #[.int 5878 t0, .int 9 t1, .int 963 t2, .int 7 t3, .int 123456 t4] (some (((ns.take 5).length : Nat) : Int)) none none).toList ((numsL ns).map fun (n : Nat) => (n : Int)) := by
  rw [← nums_eq, Array.toList_append]
  exact ints_app h (kmk_from (vs := [.int 5878 t0, .int 9 t1, .int 963 t2, .int 7 t3, .int 123456 t4]) (.cons _ _ (.cons _ _ (.cons _ _ (.cons _ _ (.cons _ _ .nil))))) (Int.natCast_nonneg _))
theorem nums_len (ns : List Int) : (numsL ns).length = 5 := by
  unfold numsL
  rw [List.length_append, List.length_map, List.length_drop, List.length_take]
  simp only [List.length_cons, List.length_nil]
  (first | lia | omega)
theorem nums_lt (ns : List Int) : ∀ n ∈ numsL ns, n < 1000000 := by
  unfold numsL
  intro n hn
  rcases List.mem_append.mp hn with h | h
  · obtain ⟨a, _, rfl⟩ := List.mem_map.mp h
    have h1 : a.fmod 1000000 < 1000000 := by rw [Int.fmod_eq_emod_of_nonneg _ (by decide)]; exact Int.emod_lt_of_pos _ (by decide)
    (first | lia | omega)
  · have := List.mem_of_mem_drop h
    simp only [List.mem_cons, List.not_mem_nil, or_false] at this
    (first | lia | omega)
end
section
local macro_rules | `(tactic| walk_at "subscriptTail Name Slice ref ref") => `(tactic| ((with_reducible show wpAny _ _ (subscriptTail _ (PySem.Expr.Slice _ _ none _) (Value.ref _) (Value.ref _)) _ _ _); (rename Fr _ _ _ _ => F'); (rename News _ _ _ _ => N'); (with_unfolding_all refine' kmk_slice (s := ⟨_, _, _, _, _⟩) F' N' ?slL ?slP ?slQ ?_ (by with_unfolding_all rfl) (by intro _; with_unfolding_all rfl) ?slZ); (case slL => first | exact IsL.isList (News.get N' (by walk_at "own mem")) | exact Heap.IsList.at (h := _) (by assumption) (fun o e => F'.keep _ _ e)); (case slP => first | exact IsPart.none | exact IsPart.int _ _); (case slQ => first | exact IsPart.none | exact IsPart.int _ _); (case slZ => first | assumption | exact Nat.le_of_ble_eq_true rfl); (clear F' N'); intro _ _ _ _ _; (try (conv => arg 6; dsimp only))))
local macro_rules | `(tactic| walk_at "subscriptTail List Slice ref ref") => `(tactic| ((with_reducible show wpAny _ _ (subscriptTail _ (PySem.Expr.Slice _ _ none _) (Value.ref _) (Value.ref _)) _ _ _); (rename Fr _ _ _ _ => F'); (rename News _ _ _ _ => N'); (with_unfolding_all refine' kmk_slice (s := ⟨_, _, _, _, _⟩) F' N' ?slL ?slP ?slQ ?_ (by with_unfolding_all rfl) (by intro _; with_unfolding_all rfl) ?slZ); (case slL => first | exact IsL.isList (News.get N' (by walk_at "own mem")) | exact Heap.IsList.at (h := _) (by assumption) (fun o e => F'.keep _ _ e)); (case slP => first | exact IsPart.none | exact IsPart.int _ _); (case slQ => first | exact IsPart.none | exact IsPart.int _ _); (case slZ => first | assumption | exact Nat.le_of_ble_eq_true rfl); (clear F' N'); intro _ _ _ _ _; (try (conv => arg 6; dsimp only))))
local macro_rules | `(tactic| walk_at "subscriptTail") => `(tactic| ((with_reducible show wpAny _ _ (subscriptTail (PySem.Expr.List _ _) (PySem.Expr.Slice _ _ none _) (Value.ref _) (Value.ref _)) _ _ _); (refine kba_turn (value' := PySem.Expr.Name (PySem.Str.ofString "_") ⟨0, 0, 0, 0⟩) (fun _ => rfl) ?_); (rename Fr _ _ _ _ => F'); (rename News _ _ _ _ => N'); (with_unfolding_all refine' kmk_slice (s := ⟨_, _, _, _, _⟩) F' N' ?slL ?slP ?slQ ?_ (by with_unfolding_all rfl) (by intro _; with_unfolding_all rfl) ?slZ); (case slL => first | exact IsL.isList (News.get N' (by walk_at "own mem")) | exact Heap.IsList.at (h := _) (by assumption) (fun o e => F'.keep _ _ e)); (case slP => first | exact IsPart.none | exact IsPart.int _ _); (case slQ => first | exact IsPart.none | exact IsPart.int _ _); (case slZ => first | assumption | exact Nat.le_of_ble_eq_true rfl); (clear F' N'); intro _ _ _ _ _; (try (conv => arg 6; dsimp only))))
local macro_rules | `(tactic| walk_at "binaryOp Add ref ref") => `(tactic| ((rename Fr _ _ _ _ => F'); (rename News _ _ _ _ => N'); (with_unfolding_all refine add_led (s := ⟨_, _, _, _, _⟩) F' N' (News.get N' (by walk_at "own mem")) (News.get N' (by walk_at "own mem")) ?hz ?_); (case hz => first | assumption | (exact Nat.le_trans (Nat.add_le_add (by assumption) (slicePick_size_le _ _ _ _)) (by exact Nat.le_of_ble_eq_true rfl)) | (exact Nat.le_trans (Nat.add_le_add (Nat.le_trans (slicePick_size_le _ _ _ _) (by assumption)) (Nat.le_trans (slicePick_size_le _ _ _ _) (by assumption))) (by exact Nat.le_of_ble_eq_true rfl))); (clear F' N'); intro _ _ _ _ _; (try (conv => arg 6; dsimp only))))
-- WL2
section
set_option maxHeartbeats 4000000 in
theorem law_numbers {w : World} {s s₀ : Shared} {A : Around} {Q : Flow → Shared → Prop} {h₀ : Heap} {L fa : Addr} {cd : Value} {mg mb m : PySem.Str → Option Value} {news0 : List (Addr × Obj)} {a : Addr} {vs : List Value} {ns : List Int} (T : Top qv (looseW qv looseX) (ExcName.means s₀.heap) mg mb h₀) (GL : GLt mg mb h₀) (KX : (kF w.params).In h₀) (g : GF w h₀)
    (F : Fr h₀ L s.heap m) (N : News h₀ L s.heap news0) (hA : A.depth ≤ 370) (hU : A.units ≤ 60) (hh : A.handled = none) (hl : h₀.IsList a vs.toArray) (hz : vs.toArray.size ≤ sizeLine) (hi : IntsAre vs ns) (hn : ns.length ≤ 63) (ms : m (PySem.Str.ofString "script") = some (.ref a))
    (rest : ∀ h tk D (ws : Array Value), Fr h₀ L h (fun y => if y = (PySem.Str.ofString "numbers") then some (.ref D) else m y) → News h₀ L h ((D, lstO ws 0) :: news0) → IntsAre ws.toList ((numsL ns).map fun (n : Nat) => (n : Int)) → Q .next { s with heap := h, toks := tk }) :
    wpAny (model pw w) (A.deeper (envOfC (PySem.Str.ofString "law") (fdS 32) L fa cd)) (exec ((fdB 32).getD 0 dStmt) (envOfC (PySem.Str.ofString "law") (fdS 32) L fa cd)) Q (fun _ _ => False) s := by
  conv => pattern List.getD (fdB 32) _ _; whnf
  conv => pattern (occs := *) fdS 32; all_goals whnf
  w_on
  wrow_steps
  refine Halt.on ?_
  rename Fr _ _ _ _ => Fe
  rename News _ _ _ _ => Ne
  with_unfolding_all refine LCg.ListComp_U Fe (by rfl) (by decide) (by rfl) (by decide) (by rfl) ?_
  wrow_steps
  rename Fr _ _ _ _ => Fe
  rename News _ _ _ _ => Ne
  have hI : IntsAre (slicePick vs.toArray none (some 5) none).toList (List.take 5 ns) := kmk_upto (y := 5) hi (by decide)
  have hIsz : (slicePick vs.toArray none (some 5) none).size = (List.take 5 ns).length := by rw [← ints_len hI]; simp
  refine LCg.CompSrc.ledger hh Fe Ne (.head _) (Nat.le_trans (by rw [hIsz, List.length_take]; (first | lia | omega) : _ ≤ 5) (by decide)) ?_
  intro g'
  refine comp_rest (List.take 5 ns) (fun a v => ∃ t, v = .int a t) (fun a y => ∃ t, y = .int (a.fmod 1000000) t) (.inr ⟨_, .head _, rfl, _, rfl⟩) hIsz.symm (fun i v hi hv => ints_src hI i v hi hv) ?_ ?_
  · rintro a v I oI C oC D m₂ ys h tk E' ha ⟨ta, rfl⟩ hC hx₂ F₂ N₂
    clear Fe Ne hI rest hi
    conv => arg 6; dsimp only
    wrow_steps
    exact ⟨⟨_, _, rfl, fun _ _ e => e⟩, _, rfl⟩
  · intro ys hys D h tk F₃ N₃ o₃
    have hys := ints_paired hys
    have hysz : ys.toArray.size ≤ 100 := by rw [List.size_toArray, ints_len hys, List.length_map, List.length_take]; (first | lia | omega)
    clear Fe Ne hI
    conv => arg 6; dsimp only
    wrow_steps
    rename Fr _ _ _ _ => Fe
    rename News _ _ _ _ => Ne
    exact rest _ _ _ _ Fe (fun p hp => Ne p (by rcases List.mem_cons.mp hp with rfl | hp; exact .head _; repeat (first | exact hp | apply List.Mem.tail))) (nums_app hys)
end
-- WLb
section
section
variable {w : World} {A : Around} {E : Value → Shared → Prop} {s : Shared} {h₀ : Heap} {L : Addr} {m : Str → Option Value}
theorem news_more {h h' : Heap} {new news : List (Addr × Obj)} (F : Fr h₀ L h m) (N : News h₀ L h news) (k : Kp h h') (hn : ∀ p ∈ new, h'.get? p.1 = some p.2 ∧ h.get? p.1 = none) : News h₀ L h' (new ++ news) := by
  intro p hp
  rcases List.mem_append.mp hp with hp | hp
  · obtain ⟨h1, h2⟩ := hn p hp
    refine ⟨h1, fun e => ?_, fresh_old F.keep h2⟩
    obtain ⟨o, _, _, ho, _⟩ := F.ns
    rw [e, ho] at h2; cases h2
  · exact ⟨k _ _ (N p hp).1, (N p hp).2⟩
theorem drawn_led {a : Addr} {vsA : Array Value} {cA : Nat} {f n1 n2 n3 n4 : Nat} {news : List (Addr × Obj)} {Q : Value → Shared → Prop} (g : GF w h₀) (F : Fr h₀ L s.heap m) (N : News h₀ L s.heap news) (hA : A.depth ≤ 390) (hU : A.units ≤ 80) (hh : A.handled = none)
    (ha : (a, lstO vsA cA) ∈ news) (hA1 : IntsAre vsA.toList ([f, n1, n2, n3, n4].map fun (n : Nat) => (n : Int))) (hn1 : n1 < 1000000) (hn2 : n2 < 1000000)
    (h : ∀ Tt tw P vsP cP Mn vsM cM ts h' tk', Fr h₀ L h' m → News h₀ L h' ((Tt, ({ cls := .type "tuple", data := .seq #[.int (drawnW f) tw, .ref P, .ref Mn] } : Obj)) :: (P, lstO vsP cP) :: (Mn, lstO vsM cM) :: (ts ++ news)) → StrsAre vsP.toList (drawnP f) → Paired (PairIn ts) (drawnM f n1 n2) vsM.toList → Q (.ref Tt) { s with heap := h', toks := tk' }) :
    wpAny (model pw w) A (call (.ref 191) [.ref a]) Q E s := by
  refine drawn_c0 (g.keeps F.keep) hA hU hh (N.get ha) hA1 hn1 hn2 fun Tt tw P vsP cP Mn vsM cM ts h' tk' k hnew hPM hts hsP hpM => ?_
  exact h Tt tw P vsP cP Mn vsM cM ts h' tk' (Fr.kp F k) (news_more F N k hnew) hsP hpM
theorem assign3 {prog : Program} {env : Env} {x0 x1 x2 : Str} {p0 p1 p2 pt : Pos} {k : Nat} {T : Addr} {v0 v1 v2 : Value} {news : List (Addr × Obj)} {Q : Unit → Shared → Prop} (hh : A.handled = none) (F : Fr h₀ env.locals s.heap m) (N : News h₀ env.locals s.heap news)
    (hT : (T, ({ cls := .type "tuple", data := .seq #[v0, v1, v2] } : Obj)) ∈ news) (h0 : env.kindOf x0 = some .local) (h1 : env.kindOf x1 = some .local) (h2 : env.kindOf x2 = some .local)
    (hp : (env.scope.kind == .class || (env.scope.kind == .module && env.locals != env.globals)) = false)
    (h : ∀ h' tk, Fr h₀ env.locals h' (fun y => if y = x2 then some v2 else if y = x1 then some v1 else if y = x0 then some v0 else m y) → News h₀ env.locals h' news → Q () { s with heap := h', toks := tk }) :
    wpAny (model prog w) A (assign (.Tuple [.Name x0 p0, .Name x1 p1, .Name x2 p2] k pt) env (.ref T)) Q E s := by
  have ht : s.heap.IsTuple T #[v0, v1, v2] := ⟨_, N.get hT, rfl, _, rfl⟩
  refine wpAny_assign_Tuple hh ht rfl rfl fun h₃ hx₃ => ?_
  replace hx₃ : Heap.ExtBut s.heap.objs.size s.heap h₃ := hx₃
  have up₃ : Kp s.heap h₃ := fun b o x => hx₃ b o (Nat.ne_of_lt (Heap.lt_size x)) x
  have F₃ := Fr.kp F up₃
  have N₃ : News h₀ env.locals h₃ news := News.grown N up₃
  show wpAny _ A (do holding [v1, v2] (assign (.Name x0 p0) env v0); do holding [v2] (assign (.Name x1 p1) env v1); do holding [] (assign (.Name x2 p2) env v2); pure ()) _ _ _
  refine wpAny_bind (wpAny_holding (wpAny_assign_Name (wpAny_storeName_local h0 F₃.ns (fun h₄ hn₄ hs₄ => ?_) hp)))
  replace hs₄ : Heap.SameBut env.locals h₃ h₄ := hs₄
  have F₄ := F₃.set hn₄ hs₄
  refine wpAny_bind (wpAny_holding (wpAny_assign_Name (wpAny_storeName_local h1 F₄.ns (fun h₅ hn₅ hs₅ => ?_) hp)))
  replace hs₅ : Heap.SameBut env.locals h₄ h₅ := hs₅
  have F₅ := F₄.set hn₅ hs₅
  refine wpAny_bind (wpAny_holding (wpAny_assign_Name (wpAny_storeName_local h2 F₅.ns (fun h₆ hn₆ hs₆ => wpAny_pure ?_) hp)))
  replace hs₆ : Heap.SameBut env.locals h₅ h₆ := hs₆
  exact h h₆ _ (F₅.set hn₆ hs₆) (((N₃.set hs₄).set hs₅).set hs₆)
end
end
-- WL3
section
local macro_rules | `(tactic| walk_at "unpackItems ref") => `(tactic| ((rename Fr _ _ _ _ => F'); (rename News _ _ _ _ => N'); (rename _ = none => hh'); (with_unfolding_all refine unpackItemsN_ F' N' ⟨_, (N' _ (.head _)).1, rfl, _, rfl⟩ hh' (by rfl) ?_); (clear F' N'); intro _ _ _))
set_option maxHeartbeats 4000000 in
theorem law_draw {w : World} {s s₀ : Shared} {A : Around} {Q : Flow → Shared → Prop} {h₀ : Heap} {L fa : Addr} {cd : Value} {mg mb m : PySem.Str → Option Value} {news0 : List (Addr × Obj)} {a : Addr} {vsA : Array Value} {cA f n1 n2 n3 n4 : Nat} (T : Top qv (looseW qv looseX) (ExcName.means s₀.heap) mg mb h₀) (GL : GLt mg mb h₀) (KX : (kF w.params).In h₀) (g : GF w h₀)
    (F : Fr h₀ L s.heap m) (N : News h₀ L s.heap news0) (hA : A.depth ≤ 370) (hU : A.units ≤ 60) (hh : A.handled = none) (ha : (a, lstO vsA cA) ∈ news0) (hA1 : IntsAre vsA.toList ([f, n1, n2, n3, n4].map fun (n : Nat) => (n : Int))) (hn1 : n1 < 1000000) (hn2 : n2 < 1000000) (mn : m (PySem.Str.ofString "numbers") = some (.ref a))
    (rest : ∀ h tk tw P vsP cP Mn vsM cM ts, Fr h₀ L h (fun y => if y = (PySem.Str.ofString "meant") then some (.ref Mn) else if y = (PySem.Str.ofString "printed") then some (.ref P) else if y = (PySem.Str.ofString "number") then some (.int (drawnW f) tw) else m y) → News h₀ L h ((P, lstO vsP cP) :: (Mn, lstO vsM cM) :: (ts ++ news0)) → StrsAre vsP.toList (drawnP f) → Paired (PairIn ts) (drawnM f n1 n2) vsM.toList → Q .next { s with heap := h, toks := tk }) :
    wpAny (model pw w) (A.deeper (envOfC (PySem.Str.ofString "law") (fdS 32) L fa cd)) (exec ((fdB 32).getD 1 dStmt) (envOfC (PySem.Str.ofString "law") (fdS 32) L fa cd)) Q (fun _ _ => False) s := by
  conv => pattern List.getD (fdB 32) _ _; whnf
  conv => pattern (occs := *) fdS 32; all_goals whnf
  w_on
  repeat' (first | wrow_close | ((with_reducible show wpAny _ _ (call (.ref 191) _) _ _ _); (rename Fr _ _ _ _ => Fz'); (rename News _ _ _ _ => Nz'); (rename GF _ _ => gz'); (with_unfolding_all refine drawn_led (s := ⟨_, _, _, _, _⟩) gz' Fz' Nz' (dn (by assumption)) (un (by assumption)) (by assumption) (by walk_at "own mem") (by assumption) (by assumption) (by assumption) ?_); (clear Fz' Nz'); (intro _ _ _ _ _ _ _ _ _ _ _ _ _ _ _); (try (conv => arg 6; dsimp only))) | walk1 | (dsimp only; walk1) | (leave1; walk_say "STEP leave1"; try dsimp only at *) | fail "no step")
  rename Fr _ _ _ _ => Fe
  rename News _ _ _ _ => Ne
  rename StrsAre _ _ => hS
  rename Paired _ _ _ => hP
  refine assign3 (s := ⟨_, _, _, _, _⟩) (v0 := .int (drawnW f) _) (v1 := .ref _) (v2 := .ref _) hh Fe Ne (.head _) (by rfl) (by rfl) (by rfl) (by rfl) ?_
  clear Fe Ne
  intro h' tk' Fe Ne
  exact rest _ _ _ _ _ _ _ _ _ _ Fe (fun p hp => Ne p (.tail _ hp)) hS hP
end
-- WLc
section
theorem pick_from (its : Array Value) (j : Nat) : (slicePick its (some (j : Int)) none none).toList = its.toList.drop j := by
  have e : sliceBounds (some (j : Int)) none none its.size = (((min j its.size : Nat) : Int), ((its.size : Nat) : Int), 1) := by
    simp only [sliceBounds, Option.getD_none, show (1 : Int) > 0 by decide, if_true, if_neg (show ¬ ((j : Int) < 0) by omega)]
    congr 1
    omega
  rw [kmk_pick_nat _ e]
  show ((its.toList.drop (min j its.size)).take (its.size - min j its.size)) = _
  have hs : its.size = its.toList.length := by simp
  rw [hs, kmk_drop_min, List.take_of_length_le (by rw [List.length_drop]; omega)]
theorem pick_to (its : Array Value) (j : Nat) : (slicePick its none (some (j : Int)) none).toList = its.toList.take j := by
  have e : sliceBounds none (some (j : Int)) none its.size = (((0 : Nat) : Int), ((min j its.size : Nat) : Int), 1) := by
    simp only [sliceBounds, Option.getD_none, show (1 : Int) > 0 by decide, if_true, if_neg (show ¬ ((j : Int) < 0) by omega)]
    congr 1
    congr 1
    omega
  rw [kmk_pick_nat _ e]
  show ((its.toList.drop 0).take (min j its.size - 0)) = _
  have hs : its.size = its.toList.length := by simp
  rw [List.drop_zero, Nat.sub_zero, hs, kmk_take_min]
noncomputable def turnP {α : Type} (ps : List α) (j : Nat) : List α := ps.drop j ++ ps.take j
theorem paired_drop {α β : Type} {R : α → β → Prop} {l : List α} {k : List β} (h : Paired R l k) : ∀ j, Paired R (l.drop j) (k.drop j) := by
  induction h with
  | nil => intro j; simp; exact .nil
  | cons a r ih =>
    intro j
    cases j with
    | zero => exact .cons a r
    | succ j => exact ih j
theorem paired_take {α β : Type} {R : α → β → Prop} {l : List α} {k : List β} (h : Paired R l k) : ∀ j, Paired R (l.take j) (k.take j) := by
  induction h with
  | nil => intro j; simp; exact .nil
  | cons a r ih =>
    intro j
    cases j with
    | zero => exact .nil
    | succ j => exact .cons a (ih j)
theorem paired_app {α β : Type} {R : α → β → Prop} {l l' : List α} {k k' : List β} (h : Paired R l k) (h' : Paired R l' k') : Paired R (l ++ l') (k ++ k') := by
  induction h with
  | nil => exact h'
  | cons a r ih => exact .cons a ih
theorem turn_paired {α : Type} {R : α → Value → Prop} {ps : List α} {its : Array Value} (h : Paired R ps its.toList) (j : Nat) :
    Paired R (turnP ps j) (slicePick its (some (j : Int)) none none ++ slicePick its none (some (j : Int)) none).toList := by
  rw [Array.toList_append, pick_from, pick_to]
  exact paired_app (paired_drop h j) (paired_take h j)
end
-- WL4
section
set_option maxHeartbeats 4000000 in
theorem law_turn {w : World} {s s₀ : Shared} {A : Around} {Q : Flow → Shared → Prop} {h₀ : Heap} {L fa : Addr} {cd : Value} {mg mb m : PySem.Str → Option Value} {r : List (Addr × Obj)} {a Mn : Addr} {vsA vsM : Array Value} {cA cM n3 k : Nat} {t3 : Tok} (T : Top qv (looseW qv looseX) (ExcName.means s₀.heap) mg mb h₀) (GL : GLt mg mb h₀) (KX : (kF w.params).In h₀) (g : GF w h₀)
    (F : Fr h₀ L s.heap m) (N : News h₀ L s.heap ((a, lstO vsA cA) :: (Mn, lstO vsM cM) :: r)) (hA : A.depth ≤ 370) (hU : A.units ≤ 60) (hh : A.handled = none) (h3 : vsA[((3 : Int)).toNat]? = some (.int (n3 : Nat) t3)) (hk : vsM.size = k) (hk0 : 0 < k) (hk2 : k ≤ 10) (mn : m (PySem.Str.ofString "numbers") = some (.ref a)) (mm : m (PySem.Str.ofString "meant") = some (.ref Mn))
    (rest : ∀ h tk t', Fr h₀ L h (fun y => if y = (PySem.Str.ofString "turn") then some (.int ((n3 % k : Nat) : Int) t') else m y) → News h₀ L h ((a, lstO vsA cA) :: (Mn, lstO vsM cM) :: r) → Q .next { s with heap := h, toks := tk }) :
    wpAny (model pw w) (A.deeper (envOfC (PySem.Str.ofString "law") (fdS 32) L fa cd)) (exec ((fdB 32).getD 2 dStmt) (envOfC (PySem.Str.ofString "law") (fdS 32) L fa cd)) Q (fun _ _ => False) s := by
  conv => pattern List.getD (fdB 32) _ _; whnf
  conv => pattern (occs := *) fdS 32; all_goals whnf
  w_on
  repeat' (first | wrow_close | ((with_reducible show wpAny _ _ (subscriptTail (Expr.Name _ _) (Expr.Constant _ _ _) (Value.ref _) (Value.int _ _)) _ _ _); first | with_reducible (((rename News _ _ _ _ => Nz'); (with_unfolding_all refine item_led (News.get Nz' (by walk_at "own mem")) (by omega) (by omega) (by assumption) ?_))) | (((rename News _ _ _ _ => Nz'); (with_unfolding_all refine item_led (News.get Nz' (by walk_at "own mem")) (by omega) (by omega) (by assumption) ?_)))) | walk1 | (dsimp only; walk1) | (leave1; walk_say "STEP leave1"; try dsimp only at *) | fail "no step")
  rename Fr _ _ _ _ => Fe
  rename News _ _ _ _ => Ne
  rw [fmodN] at Fe
  exact rest _ _ _ Fe Ne
set_option maxHeartbeats 4000000 in
theorem law_turned {w : World} {s s₀ : Shared} {A : Around} {Q : Flow → Shared → Prop} {h₀ : Heap} {L fa : Addr} {cd : Value} {mg mb m : PySem.Str → Option Value} {r : List (Addr × Obj)} {Mn : Addr} {vsM : Array Value} {cM j : Nat} {tj : Tok} (T : Top qv (looseW qv looseX) (ExcName.means s₀.heap) mg mb h₀) (GL : GLt mg mb h₀) (KX : (kF w.params).In h₀) (g : GF w h₀)
    (F : Fr h₀ L s.heap m) (N : News h₀ L s.heap ((Mn, lstO vsM cM) :: r)) (hA : A.depth ≤ 370) (hU : A.units ≤ 60) (hh : A.handled = none) (hz : vsM.size ≤ sizeLine) (hz2 : vsM.size ≤ 10) (mt : m (PySem.Str.ofString "turn") = some (.int (j : Int) tj)) (mm : m (PySem.Str.ofString "meant") = some (.ref Mn))
    (rest : ∀ h tk Tn, Fr h₀ L h (fun y => if y = (PySem.Str.ofString "turned") then some (.ref Tn) else m y) → News h₀ L h ((Tn, lstO (slicePick vsM (some (j : Int)) none none ++ slicePick vsM none (some (j : Int)) none) 0) :: (Mn, lstO vsM cM) :: r) → Q .next { s with heap := h, toks := tk }) :
    wpAny (model pw w) (A.deeper (envOfC (PySem.Str.ofString "law") (fdS 32) L fa cd)) (exec ((fdB 32).getD 3 dStmt) (envOfC (PySem.Str.ofString "law") (fdS 32) L fa cd)) Q (fun _ _ => False) s := by
  conv => pattern List.getD (fdB 32) _ _; whnf
  conv => pattern (occs := *) fdS 32; all_goals whnf
  w_on
  repeat' (first | wrow_close | ((with_reducible show wpAny _ _ (subscriptTail (Expr.Name _ _) (Expr.Constant _ _ _) (Value.ref _) (Value.int _ _)) _ _ _); first | with_reducible (((rename News _ _ _ _ => Nz'); (with_unfolding_all refine item_led (News.get Nz' (by walk_at "own mem")) (by omega) (by omega) (by assumption) ?_))) | (((rename News _ _ _ _ => Nz'); (with_unfolding_all refine item_led (News.get Nz' (by walk_at "own mem")) (by omega) (by omega) (by assumption) ?_)))) | walk1 | (dsimp only; walk1) | (leave1; walk_say "STEP leave1"; try dsimp only at *) | fail "no step")
  rename Fr _ _ _ _ => Fe
  rename News _ _ _ _ => Ne
  exact rest _ _ _ Fe (fun p hp => Ne p (by rcases List.mem_cons.mp hp with rfl | hp; exact .head _; repeat (first | exact hp | apply List.Mem.tail)))
end
end
-- WLd
section
noncomputable def sepL (j : Nat) : List Nat := [[44, 32], [44], [32], [32, 44, 32]].getD j []
theorem menu_at {t0 t1 t2 t3 : Tok} {j : Nat} (h : j < 4) : ∃ t, (#[Value.str (PySem.Str.ofString ", ") t0, Value.str (PySem.Str.ofString ",") t1, Value.str (PySem.Str.ofString " ") t2, Value.str (PySem.Str.ofString " , ") t3] : Array Value)[((j : Nat) : Int).toNat]? = some (.str (sL (sepL j)) t) := by
  match j, h with
  | 0, _ => exact ⟨t0, by rw [show PySem.Str.ofString ", " = sL (sepL 0) by kernel_rfl]; rfl⟩
  | 1, _ => exact ⟨t1, by rw [show PySem.Str.ofString "," = sL (sepL 1) by kernel_rfl]; rfl⟩
  | 2, _ => exact ⟨t2, by rw [show PySem.Str.ofString " " = sL (sepL 2) by kernel_rfl]; rfl⟩
  | 3, _ => exact ⟨t3, by rw [show PySem.Str.ofString " , " = sL (sepL 3) by kernel_rfl]; rfl⟩
theorem sepL_len (j : Nat) : (sepL j).length ≤ 3 := by
  by_cases h : j < 4
  · have : ∀ i, i < 4 → (sepL i).length ≤ 3 := by decide
    exact this j h
  · unfold sepL; rw [List.getD, List.getElem?_eq_none (by simp; omega)]; simp
section
variable {prog : Program} {w : World} {A : Around} {E : Value → Shared → Prop} {s : Shared} {h₀ : Heap} {L : Addr} {m : Str → Option Value}
theorem tup_0 {T : Addr} {v0 v1 : Value} {t : Tok} {Q : Value → Shared → Prop} {value slice : Expr} (ho : s.heap.get? T = some (tupO v0 v1)) (h : Q v0 s)
    (hs : subscripted slice false (.ref T) (.int 0 t) = operate [.ref T, .int 0 t] (getItem (.ref T) (.int 0 t)) := by with_unfolding_all rfl) :
    wpAny (model prog w) A (subscriptTail value slice (.ref T) (.int 0 t)) Q E s := by
  refine kba_turn (value' := PySem.Expr.Name (PySem.Str.ofString "_") ⟨0, 0, 0, 0⟩) (fun _ => rfl) ?_
  have ht : IsTup s.heap T #[v0, v1] := ⟨_, ho, rfl, _, rfl⟩
  exact item_tuple ht (by decide) (by decide) (j := 0) (by rfl) (by rfl) h hs
theorem tup_1 {T : Addr} {v0 v1 : Value} {t : Tok} {Q : Value → Shared → Prop} {value slice : Expr} (ho : s.heap.get? T = some (tupO v0 v1)) (h : Q v1 s)
    (hs : subscripted slice false (.ref T) (.int 1 t) = operate [.ref T, .int 1 t] (getItem (.ref T) (.int 1 t)) := by with_unfolding_all rfl) :
    wpAny (model prog w) A (subscriptTail value slice (.ref T) (.int 1 t)) Q E s := by
  refine kba_turn (value' := PySem.Expr.Name (PySem.Str.ofString "_") ⟨0, 0, 0, 0⟩) (fun _ => rfl) ?_
  have ht : IsTup s.heap T #[v0, v1] := ⟨_, ho, rfl, _, rfl⟩
  exact item_tuple ht (by decide) (by decide) (j := 1) (by rfl) (by rfl) h hs
theorem menu_led {D : Addr} {t0 t1 t2 t3 : Tok} {n j : Nat} {k : Int} {u : Tok} {Q : Value → Shared → Prop} {value slice : Expr}
    (ho : s.heap.get? D = some (lstO #[Value.str (PySem.Str.ofString ", ") t0, Value.str (PySem.Str.ofString ",") t1, Value.str (PySem.Str.ofString " ") t2, Value.str (PySem.Str.ofString " , ") t3] n)) (hj : k = (j : Int)) (hj4 : j < 4) (h : ∀ t, Q (.str (sL (sepL j)) t) s)
    (hs : subscripted slice false (.ref D) (.int k u) = operate [.ref D, .int k u] (getItem (.ref D) (.int k u)) := by with_unfolding_all rfl) :
    wpAny (model prog w) A (subscriptTail value slice (.ref D) (.int k u)) Q E s := by
  refine kba_turn (value' := PySem.Expr.Name (PySem.Str.ofString "_") ⟨0, 0, 0, 0⟩) (fun _ => rfl) ?_
  obtain ⟨t, ht⟩ := menu_at (t0 := t0) (t1 := t1) (t2 := t2) (t3 := t3) hj4
  subst hj
  exact item_led ho (by omega) (by omega) ht (h t) hs
end
noncomputable def ltr (x : PySem.Str) : List Nat := x.cps.toList
theorem ltr_is (x : PySem.Str) : sL (ltr x) = x := sL_cps x
theorem ltr_len (x : PySem.Str) : (ltr x).length = x.length := by unfold ltr; show x.cps.toList.length = x.cps.size; simp
noncomputable def plainL (n3 : Nat) : Nat → List (PySem.Str × Int) → List Nat
  | _, [] => []
  | i, p :: r => ltr p.1 ++ sepL ((n3 / 5 + i) % 4) ++ plainL n3 (i + 1) r
theorem plain_step {n3 i : Nat} {ps : List (PySem.Str × Int)} {p : PySem.Str × Int} {acc R : List Nat} (hp : ps[i]? = some p) (h : acc ++ plainL n3 i (ps.drop i) = R) :
    (acc ++ (ltr p.1 ++ sepL ((n3 / 5 + i) % 4))) ++ plainL n3 (i + 1) (ps.drop (i + 1)) = R := by
  have hi : i < ps.length := by
    rcases Nat.lt_or_ge i ps.length with q | q
    · exact q
    · rw [List.getElem?_eq_none q] at hp; cases hp
  rw [← h, List.drop_eq_getElem_cons hi, plainL]
  rw [List.getElem?_eq_getElem hi] at hp
  rw [Option.some.inj hp]
  simp
theorem pair_at {ts : List (Addr × Obj)} {ps : List (PySem.Str × Int)} {vs : Array Value} (h : Paired (PairIn ts) ps vs.toList) {i : Nat} (hi : i < ps.length) :
    ∃ p a t u, ps[i]? = some p ∧ vs[i]? = some (.ref a) ∧ (a, tupO (.str p.1 t) (.int p.2 u)) ∈ ts := by
  have : ∀ {l : List (PySem.Str × Int)} {k : List Value}, Paired (PairIn ts) l k → ∀ {i : Nat}, i < l.length → ∃ p a t u, l[i]? = some p ∧ k[i]? = some (.ref a) ∧ (a, tupO (.str p.1 t) (.int p.2 u)) ∈ ts := by
    intro l k h
    induction h with
    | nil => intro i hi; simp at hi
    | cons hd _ ih =>
      intro i hi
      cases i with
      | zero =>
        obtain ⟨a, t, u, rfl, hm⟩ := hd
        exact ⟨_, a, t, u, rfl, rfl, hm⟩
      | succ i => exact ih (by simpa using hi)
  obtain ⟨p, a, t, u, h1, h2, h3⟩ := this h hi
  exact ⟨p, a, t, u, h1, by rw [← Array.getElem?_toList]; exact h2, h3⟩
end
-- WL5
section
local macro_rules | `(tactic| walk_at "subscriptTail") => `(tactic| ((rename News _ _ _ _ => N'); first
  | ((with_reducible show wpAny _ _ (subscriptTail (PySem.Expr.Subscript _ _ _) _ (Value.ref _) (Value.int 0 _)) _ _ _); with_unfolding_all refine tup_0 (s := ⟨_, _, _, _, _⟩) (News.get N' (by walk_at "own mem")) ?_)
  | ((with_reducible show wpAny _ _ (subscriptTail (PySem.Expr.List _ _) _ (Value.ref _) (Value.int _ _)) _ _ _); (with_unfolding_all refine menu_led (s := ⟨_, _, _, _, _⟩) (News.get N' (.head _)) (by assumption) (by assumption) ?_); intro _)))
set_option maxHeartbeats 4000000 in
theorem law_plain_b {w : World} {s s₀ : Shared} {A : Around} {Q : Flow → Shared → Prop} {h₀ : Heap} {L fa : Addr} {cd : Value} {mg mb m : PySem.Str → Option Value} {news0 : List (Addr × Obj)} {a Tn Tp : Addr} {vsA vsT : Array Value} {cA cT n3 k : Nat} {x pl : PySem.Str} {y : Int} {t3 tk tx ty tp : Tok} (T : Top qv (looseW qv looseX) (ExcName.means s₀.heap) mg mb h₀) (GL : GLt mg mb h₀) (KX : (kF w.params).In h₀) (g : GF w h₀)
    (F : Fr h₀ L s.heap m) (N : News h₀ L s.heap news0) (hA : A.depth ≤ 370) (hU : A.units ≤ 60) (hh : A.handled = none) (hk : k ≤ 10) (h3 : vsA[((3 : Int)).toNat]? = some (.int (n3 : Nat) t3)) (hx : vsT[((k : Nat) : Int).toNat]? = some (.ref Tp)) (ha : (a, lstO vsA cA) ∈ news0) (hT : (Tn, lstO vsT cT) ∈ news0) (hp : (Tp, tupO (.str x tx) (.int y ty)) ∈ news0) (hxl : x.length ≤ 100) (hpl : pl.length ≤ 1000) (mk : m (PySem.Str.ofString "k") = some (.int (k : Int) tk)) (mn : m (PySem.Str.ofString "numbers") = some (.ref a)) (mt : m (PySem.Str.ofString "turned") = some (.ref Tn)) (mp : m (PySem.Str.ofString "plain") = some (.str pl tp))
    (rest : ∀ h tk t', Fr h₀ L h (fun z => if z = (PySem.Str.ofString "plain") then some (.str (pl ++ (x ++ sL (sepL ((n3 / 5 + k) % 4)))) t') else m z) → News h₀ L h news0 → Q .next { s with heap := h, toks := tk }) :
    wpAny (model pw w) (A.deeper (envOfC (PySem.Str.ofString "law") (fdS 32) L fa cd)) (execs (stBody ((fdB 32).getD 5 dStmt)) (envOfC (PySem.Str.ofString "law") (fdS 32) L fa cd)) Q (fun _ _ => False) s := by
  conv => pattern stBody _; whnf
  conv => pattern (occs := *) fdS 32; all_goals whnf
  w_on
  have hj4 : (n3 / 5 + k) % 4 < 4 := Nat.mod_lt _ (by decide)
  have hj : ((n3 : Int).fdiv 5 + (k : Int)).fmod 4 = (((n3 / 5 + k) % 4 : Nat) : Int) := by
    rw [show (5 : Int) = ((5 : Nat) : Int) from rfl, fdivN, ← Int.natCast_add, show (4 : Int) = ((4 : Nat) : Int) from rfl, fmodN]
  have hsl := sepL_len ((n3 / 5 + k) % 4)
  have hsl2 := sL_len (sepL ((n3 / 5 + k) % 4))
  repeat' (first | wrow_close | ((with_reducible show wpAny _ _ (subscriptTail (Expr.Name _ _) (Expr.Name _ _) (Value.ref _) (Value.int _ _)) _ _ _); first | with_reducible (((rename News _ _ _ _ => Nz'); (with_unfolding_all refine item_led (News.get Nz' (by walk_at "own mem")) (by (first | lia | omega)) (by (first | lia | omega)) (by assumption) ?_))) | (((rename News _ _ _ _ => Nz'); (with_unfolding_all refine item_led (News.get Nz' (by walk_at "own mem")) (by (first | lia | omega)) (by (first | lia | omega)) (by assumption) ?_)))) | ((with_reducible show wpAny _ _ (subscriptTail (Expr.Name _ _) (Expr.Constant _ _ _) (Value.ref _) (Value.int _ _)) _ _ _); first | with_reducible (((rename News _ _ _ _ => Nz'); (with_unfolding_all refine item_led (News.get Nz' (by walk_at "own mem")) (by (first | lia | omega)) (by (first | lia | omega)) (by assumption) ?_))) | (((rename News _ _ _ _ => Nz'); (with_unfolding_all refine item_led (News.get Nz' (by walk_at "own mem")) (by (first | lia | omega)) (by (first | lia | omega)) (by assumption) ?_)))) | walk1 | (dsimp only; walk1) | (leave1; walk_say "STEP leave1"; try dsimp only at *) | fail "no step")
  rename Fr _ _ _ _ => Fe
  rename News _ _ _ _ => Ne
  exact rest _ _ _ Fe (fun p hp => Ne p (.tail _ hp))
set_option maxHeartbeats 4000000 in
theorem law_plain {w : World} {s s₀ : Shared} {A : Around} {Q : Flow → Shared → Prop} {h₀ : Heap} {L fa : Addr} {cd : Value} {mg mb m : PySem.Str → Option Value} {news0 ts : List (Addr × Obj)} {a Tn : Addr} {vsA vsT : Array Value} {cA cT n3 : Nat} {ps : List (PySem.Str × Int)} {t3 tp : Tok} (T : Top qv (looseW qv looseX) (ExcName.means s₀.heap) mg mb h₀) (GL : GLt mg mb h₀) (KX : (kF w.params).In h₀) (g : GF w h₀)
    (F : Fr h₀ L s.heap m) (N : News h₀ L s.heap news0) (hA : A.depth ≤ 370) (hU : A.units ≤ 60) (hh : A.handled = none) (h3 : vsA[((3 : Int)).toNat]? = some (.int (n3 : Nat) t3)) (hP : Paired (PairIn ts) ps vsT.toList) (hps : ps.length ≤ 9) (hl : ∀ p ∈ ps, p.1.length ≤ 100) (ha : (a, lstO vsA cA) ∈ news0) (hT : (Tn, lstO vsT cT) ∈ news0) (hts : ∀ p ∈ ts, p ∈ news0) (mn : m (PySem.Str.ofString "numbers") = some (.ref a)) (mt : m (PySem.Str.ofString "turned") = some (.ref Tn)) (mp : m (PySem.Str.ofString "plain") = some (.str (sL []) tp))
    (rest : ∀ h tk M t', Fr h₀ L h M → News h₀ L h news0 → M (PySem.Str.ofString "plain") = some (.str (sL (plainL n3 0 ps)) t') → (∀ q, q ≠ (PySem.Str.ofString "plain") → q ≠ (PySem.Str.ofString "k") → M q = m q) → Q .next { s with heap := h, toks := tk }) :
    wpAny (model pw w) (A.deeper (envOfC (PySem.Str.ofString "law") (fdS 32) L fa cd)) (exec ((fdB 32).getD 5 dStmt) (envOfC (PySem.Str.ofString "law") (fdS 32) L fa cd)) Q (fun _ _ => False) s := by
  conv => pattern List.getD (fdB 32) _ _; whnf
  conv => pattern (occs := *) fdS 32; all_goals whnf
  w_on
  have hszT : vsT.size = ps.length := paired_size hP
  with_unfolding_all refine For_at F (by rfl) (by rfl) ?_
  repeat' (first | wrow_close | ((with_reducible show wpAny _ _ (subscriptTail (Expr.Name _ _) (Expr.Name _ _) (Value.ref _) (Value.int _ _)) _ _ _); first | with_reducible (((rename News _ _ _ _ => Nz'); (with_unfolding_all refine item_led (News.get Nz' (by walk_at "own mem")) (by (first | lia | omega)) (by (first | lia | omega)) (by assumption) ?_))) | (((rename News _ _ _ _ => Nz'); (with_unfolding_all refine item_led (News.get Nz' (by walk_at "own mem")) (by (first | lia | omega)) (by (first | lia | omega)) (by assumption) ?_)))) | ((with_reducible show wpAny _ _ (subscriptTail (Expr.Name _ _) (Expr.Constant _ _ _) (Value.ref _) (Value.int _ _)) _ _ _); first | with_reducible (((rename News _ _ _ _ => Nz'); (with_unfolding_all refine item_led (News.get Nz' (by walk_at "own mem")) (by (first | lia | omega)) (by (first | lia | omega)) (by assumption) ?_))) | (((rename News _ _ _ _ => Nz'); (with_unfolding_all refine item_led (News.get Nz' (by walk_at "own mem")) (by (first | lia | omega)) (by (first | lia | omega)) (by assumption) ?_)))) | walk1 | (dsimp only; walk1) | (leave1; walk_say "STEP leave1"; try dsimp only at *) | fail "no step")
  try dsimp only
  rename Fr _ _ _ _ => F2
  rename News _ _ _ _ => N2
  refine ForAt.range (n := ps.length) (J := (fun i M news => news = news0 ∧ ∃ acc : List Nat, (∃ tt, M (PySem.Str.ofString "plain") = some (.str (sL acc) tt)) ∧ acc ++ plainL n3 i (ps.drop i) = plainL n3 0 ps ∧ acc.length ≤ 103 * i ∧ (∀ q, q ≠ (PySem.Str.ofString "plain") → q ≠ (PySem.Str.ofString "k") → M q = m q))) hh (by assumption) (rsmall (by (first | lia | omega))) (rsize _) F2 N2 ⟨rfl, [], ⟨_, mp⟩, rfl, by simp, fun q _ _ => rfl⟩ ?_ ?_
  · clear F2 N2 rest
    rintro i t m₁ news₁ h tk I o hi ⟨rfl, acc, ⟨tp1, mp1⟩, hacc, hlen, hq⟩ hoff F₁ N₁
    rw [show (0:Int) + (i:Int)*1 = (i:Int) by (first | lia | omega)] at F₁
    obtain ⟨p, Tp, tx, ty, hpi, hvi, hTp⟩ := pair_at hP hi
    have mn1 := (hq (PySem.Str.ofString "numbers") (by decide) (by decide)).trans mn
    have mt1 := (hq (PySem.Str.ofString "turned") (by decide) (by decide)).trans mt
    refine law_plain_b (s := ⟨_, _, _, _, _⟩) (L := L) (k := i) (x := p.1) (y := p.2) T GL KX g F₁ N₁ hA hU hh (by (first | lia | omega)) h3 (by rw [Int.toNat_natCast]; exact hvi) (.tail _ ha) (.tail _ hT) (.tail _ (hts _ hTp)) (hl p (List.mem_of_getElem? hpi)) (by rw [sL_len]; (first | lia | omega)) rfl mn1 mt1 mp1 ?_
    rintro h tk t' F₂ N₂
    have e1 : sL acc ++ (p.1 ++ sL (sepL ((n3 / 5 + i) % 4))) = sL (acc ++ (ltr p.1 ++ sepL ((n3 / 5 + i) % 4))) := by
      rw [← sL_app, ← sL_app, ltr_is]
    refine LStep.next F₂ N₂ _ (fun p hp => hp) hoff ⟨rfl, _, ⟨_, by rw [← e1]; rfl⟩, plain_step hpi hacc, ?_, fun q h1 h2 => ?_⟩
    · have h1 := hl p (List.mem_of_getElem? hpi)
      have h2 := sepL_len ((n3 / 5 + i) % 4)
      rw [List.length_append, List.length_append, ltr_len]
      (first | lia | omega)
    · simp only [if_neg h1, if_neg h2]; exact hq q h1 h2
  · clear F2 N2
    rintro h tk m₁ news₁ F₁ N₁ ⟨rfl, acc, ⟨tp1, mp1⟩, hacc, hlen, hq⟩
    refine wpAny_execs_nil ?_
    rw [List.drop_eq_nil_of_le (Nat.le_refl _), plainL, List.append_nil] at hacc
    rw [hacc] at mp1
    exact rest _ _ _ _ F₁ N₁ mp1 hq
end
-- WLe
section
section
variable {w : World} {A : Around} {E : Value → Shared → Prop} {s : Shared} {h₀ : Heap} {L : Addr} {m : Str → Option Value}
theorem heard_led {x : PySem.Str} {l : List Nat} {t : Tok} {news : List (Addr × Obj)} {Q : Value → Shared → Prop} (hx : sL l = x) (g : GF w h₀) (F : Fr h₀ L s.heap m) (N : News h₀ L s.heap news) (hA : A.depth ≤ 410) (hU : A.units ≤ 90) (hh : A.handled = none)
    (hl : x.length ≤ 300) (hc : ∀ c ∈ l, (b3S c).length ≤ 10)
    (h : ∀ D vs k h' tk', Fr h₀ L h' m → News h₀ L h' ((D, lstO vs k) :: news) → StrsAre vs.toList (heardS l) → Q (.ref D) { s with heap := h', toks := tk' }) :
    wpAny (model pw w) A (call (.ref 203) [.str x t]) Q E s := by
  refine heard_c0 (g.keeps F.keep) hA hU hh hx hl hc fun D h' tk' vs k kp e1 e2 hS => ?_
  exact h D vs k h' tk' (Fr.kp F kp) (news_more (new := [(D, lstO vs k)]) F N kp fun p hp => by rw [List.mem_singleton.mp hp]; exact ⟨e1, e2⟩) hS
end
end
-- WL6
section
set_option maxHeartbeats 4000000 in
theorem law_heard {w : World} {s s₀ : Shared} {A : Around} {Q : Flow → Shared → Prop} {h₀ : Heap} {L fa : Addr} {cd : Value} {mg mb m : PySem.Str → Option Value} {news0 : List (Addr × Obj)} {a : Addr} {vsA : Array Value} {cA n4 : Nat} {l : List Nat} {t4 tp : Tok} (T : Top qv (looseW qv looseX) (ExcName.means s₀.heap) mg mb h₀) (GL : GLt mg mb h₀) (KX : (kF w.params).In h₀) (g : GF w h₀)
    (F : Fr h₀ L s.heap m) (N : News h₀ L s.heap news0) (hA : A.depth ≤ 370) (hU : A.units ≤ 60) (hh : A.handled = none) (h4 : vsA[((4 : Int)).toNat]? = some (.int (n4 : Nat) t4)) (ha : (a, lstO vsA cA) ∈ news0) (hl : (sL l).length ≤ 100) (hs : n4 < 1000000) (hc : ∀ c ∈ l, c ≤ 200) (hl2 : (sL (typedFrom 0 l n4)).length ≤ 300) (hb : ∀ c ∈ typedFrom 0 l n4, (b3S c).length ≤ 10) (mn : m (PySem.Str.ofString "numbers") = some (.ref a)) (mp : m (PySem.Str.ofString "plain") = some (.str (sL l) tp))
    (rest : ∀ h tk H vsH cH, Fr h₀ L h (fun z => if z = (PySem.Str.ofString "heard") then some (.ref H) else m z) → News h₀ L h ((H, lstO vsH cH) :: news0) → StrsAre vsH.toList (heardS (typedFrom 0 l n4)) → Q .next { s with heap := h, toks := tk }) :
    wpAny (model pw w) (A.deeper (envOfC (PySem.Str.ofString "law") (fdS 32) L fa cd)) (exec ((fdB 32).getD 6 dStmt) (envOfC (PySem.Str.ofString "law") (fdS 32) L fa cd)) Q (fun _ _ => False) s := by
  conv => pattern List.getD (fdB 32) _ _; whnf
  conv => pattern (occs := *) fdS 32; all_goals whnf
  w_on
  repeat' (first | wrow_close | ((with_reducible show wpAny _ _ (subscriptTail (Expr.Name _ _) (Expr.Constant _ _ _) (Value.ref _) (Value.int _ _)) _ _ _); first | with_reducible (((rename News _ _ _ _ => Nz'); (with_unfolding_all refine item_led (News.get Nz' (by walk_at "own mem")) (by omega) (by omega) (by assumption) ?_))) | (((rename News _ _ _ _ => Nz'); (with_unfolding_all refine item_led (News.get Nz' (by walk_at "own mem")) (by omega) (by omega) (by assumption) ?_)))) | ((with_reducible show wpAny _ _ (call (.ref 198) _) _ _ _); (rename Fr _ _ _ _ => Fz'); (rename News _ _ _ _ => Nz'); (rename GF _ _ => gz'); (with_unfolding_all refine typed_c0 (s := ⟨_, _, _, _, _⟩) (gz'.keeps Fz'.keep) (dn (by assumption)) (un (by assumption)) (by assumption) rfl (by assumption) (by assumption) (by assumption) ?_); (intro _ _ _ kz'); (walk_at "own aft")) | ((with_reducible show wpAny _ _ (call (.ref 203) _) _ _ _); (rename Fr _ _ _ _ => Fz'); (rename News _ _ _ _ => Nz'); (rename GF _ _ => gz'); (with_unfolding_all refine heard_led (s := ⟨_, _, _, _, _⟩) rfl gz' Fz' Nz' (dn (by assumption)) (un (by assumption)) (by assumption) (by assumption) (by assumption) ?_); (clear Fz' Nz'); (intro _ _ _ _ _ _ _ _); (try (conv => arg 6; dsimp only))) | walk1 | (dsimp only; walk1) | (leave1; walk_say "STEP leave1"; try dsimp only at *) | fail "no step")
  rename Fr _ _ _ _ => Fe
  rename News _ _ _ _ => Ne
  rename StrsAre _ _ => hS
  exact rest _ _ _ _ _ Fe Ne hS
end
-- WLf
section
theorem bne_self {x y : PySem.Str} (h : x = y) : (x != y) = false := by subst h; simp
theorem paired_src {α : Type} {R : α → Value → Prop} {ps : List α} {vs : Array Value} (h : Paired R ps vs.toList) {i : Nat} {v : Value} (hi : i < vs.size) (hv : vs[i]? = some v) : ∃ a, ps[i]? = some a ∧ R a v := by
  have : ∀ {l : List α} {k : List Value}, Paired R l k → ∀ {i : Nat}, k[i]? = some v → ∃ a, l[i]? = some a ∧ R a v := by
    intro l k h
    induction h with
    | nil => intro i e; simp at e
    | cons hd _ ih =>
      intro i e
      cases i with
      | zero => simp at e; subst e; exact ⟨_, rfl, hd⟩
      | succ i => exact ih (by simpa using e)
  exact this h (by rw [Array.getElem?_toList]; exact hv)
end
-- WL7
section
local macro_rules | `(tactic| walk_at "compareOp NotEq ref ref") => `(tactic| ((rename News _ _ _ _ => N'); (with_unfolding_all refine' ne_strl (News.get N' ?neA) ?neS (News.get N' (.head _)) ?neT (cl_room (Nat.le_trans (by assumption) (by decide))) ?neO ?neP ?_); (case neA => exact (by walk_at "own mem")); (case neS => assumption); (case neT => assumption); (case neO => assumption); (case neP => assumption)))
set_option maxHeartbeats 4000000 in
theorem law_check {w : World} {s s₀ : Shared} {A : Around} {Q : Flow → Shared → Prop} {h₀ : Heap} {L fa : Addr} {cd : Value} {mg mb m : PySem.Str → Option Value} {news0 ts : List (Addr × Obj)} {P H Tn : Addr} {vsP vsH vsT : Array Value} {cP cH cT : Nat} {W : Int} {tw : Tok} {ps : List (PySem.Str × Int)} {xs hs : List PySem.Str} (T : Top qv (looseW qv looseX) (ExcName.means s₀.heap) mg mb h₀) (GL : GLt mg mb h₀) (KX : (kF w.params).In h₀) (g : GF w h₀)
    (F : Fr h₀ L s.heap m) (N : News h₀ L s.heap news0) (hA : A.depth ≤ 370) (hU : A.units ≤ 60) (hh : A.handled = none) (hW1 : -100000000000 ≤ W) (hW2 : W ≤ 100000000000) (hpr : prettyS W = xs) (hS : StrsAre vsP.toList xs) (hw : (xs.map (·.length)).sum + xs.length ≤ 1048576) (hH : StrsAre vsH.toList hs) (hP : Paired (PairIn ts) ps vsT.toList) (heq : hs = ps.map (·.1)) (ok : okStrs hs) (hsz : ps.length ≤ 10) (mP : (P, lstO vsP cP) ∈ news0) (mH : (H, lstO vsH cH) ∈ news0) (mT : (Tn, lstO vsT cT) ∈ news0) (hts : ∀ p ∈ ts, p ∈ news0) (mn : m (PySem.Str.ofString "number") = some (.int W tw)) (mp : m (PySem.Str.ofString "printed") = some (.ref P)) (mh : m (PySem.Str.ofString "heard") = some (.ref H)) (mt : m (PySem.Str.ofString "turned") = some (.ref Tn))
    (rest : ∀ h tk, Fr h₀ L h m → News h₀ L h news0 → Q .next { s with heap := h, toks := tk }) :
    wpAny (model pw w) (A.deeper (envOfC (PySem.Str.ofString "law") (fdS 32) L fa cd)) (exec ((fdB 32).getD 7 dStmt) (envOfC (PySem.Str.ofString "law") (fdS 32) L fa cd)) Q (fun _ _ => False) s := by
  conv => pattern List.getD (fdB 32) _ _; whnf
  conv => pattern (occs := *) fdS 32; all_goals whnf
  w_on
  repeat' (first | wrow_close | ((with_reducible show wpAny _ _ (call (Value.builtin "str.join") _) _ _ _); first | with_reducible (((rename News _ _ _ _ => Nz'); (with_unfolding_all refine' join_listW (News.isList Nz' ?hjm) ?hjs ?hjl ?hjw ?_); (case hjm => repeat (first | assumption | exact List.Mem.head _ | apply List.Mem.tail)); (case hjs => assumption); (case hjl => decide); (case hjw => assumption); intro _ _)) | (((rename News _ _ _ _ => Nz'); (with_unfolding_all refine' join_listW (News.isList Nz' ?hjm) ?hjs ?hjl ?hjw ?_); (case hjm => repeat (first | assumption | exact List.Mem.head _ | apply List.Mem.tail)); (case hjs => assumption); (case hjl => decide); (case hjw => assumption); intro _ _))) | ((with_reducible show wpAny _ _ (call (.ref 22) _) _ _ _); (rename Fr _ _ _ _ => Fz'); (rename News _ _ _ _ => Nz'); (rename GF _ _ => gz'); (with_unfolding_all refine pretty_c (s := ⟨_, _, _, _, _⟩) (gz'.keeps Fz'.keep) (dn (by assumption)) (un (by assumption)) (by assumption) (by (first | lia | omega)) (by (first | lia | omega)) ?_); (intro _ _ _ kz'); (walk_at "own aft")) | ((with_reducible show wpAny _ _ (subscriptTail (Expr.Name _ _) (Expr.Constant _ _ _) (Value.ref _) (Value.int _ _)) _ _ _); first | with_reducible (((rename News _ _ _ _ => Nz'); first | ((with_reducible show wpAny _ _ (subscriptTail _ _ (Value.ref _) (Value.int 0 _)) _ _ _); with_unfolding_all refine tup_0 (s := ⟨_, _, _, _, _⟩) (News.get Nz' (by walk_at "own mem")) ?_) | ((with_reducible show wpAny _ _ (subscriptTail _ _ (Value.ref _) (Value.int 1 _)) _ _ _); with_unfolding_all refine tup_1 (s := ⟨_, _, _, _, _⟩) (News.get Nz' (by walk_at "own mem")) ?_))) | (((rename News _ _ _ _ => Nz'); first | ((with_reducible show wpAny _ _ (subscriptTail _ _ (Value.ref _) (Value.int 0 _)) _ _ _); with_unfolding_all refine tup_0 (s := ⟨_, _, _, _, _⟩) (News.get Nz' (by walk_at "own mem")) ?_) | ((with_reducible show wpAny _ _ (subscriptTail _ _ (Value.ref _) (Value.int 1 _)) _ _ _); with_unfolding_all refine tup_1 (s := ⟨_, _, _, _, _⟩) (News.get Nz' (by walk_at "own mem")) ?_)))) | walk1 | (dsimp only; walk1) | (leave1; walk_say "STEP leave1"; try dsimp only at *) | fail "no step")
  · rename _ = true => hbad
    rw [bne_self (by rw [hpr])] at hbad
    cases hbad
  · refine Halt.on ?_
    rename Fr _ _ _ _ => Fe
    rename News _ _ _ _ => Ne
    have hszT : vsT.size = ps.length := paired_size hP
    with_unfolding_all refine LCg.ListComp_U Fe (by rfl) (by decide) (by rfl) (by decide) (by rfl) ?_
    repeat' (first | wrow_close | ((with_reducible show wpAny _ _ (call (Value.builtin "str.join") _) _ _ _); first | with_reducible (((rename News _ _ _ _ => Nz'); (with_unfolding_all refine' join_listW (News.isList Nz' ?hjm) ?hjs ?hjl ?hjw ?_); (case hjm => repeat (first | assumption | exact List.Mem.head _ | apply List.Mem.tail)); (case hjs => assumption); (case hjl => decide); (case hjw => assumption); intro _ _)) | (((rename News _ _ _ _ => Nz'); (with_unfolding_all refine' join_listW (News.isList Nz' ?hjm) ?hjs ?hjl ?hjw ?_); (case hjm => repeat (first | assumption | exact List.Mem.head _ | apply List.Mem.tail)); (case hjs => assumption); (case hjl => decide); (case hjw => assumption); intro _ _))) | ((with_reducible show wpAny _ _ (call (.ref 22) _) _ _ _); (rename Fr _ _ _ _ => Fz'); (rename News _ _ _ _ => Nz'); (rename GF _ _ => gz'); (with_unfolding_all refine pretty_c (s := ⟨_, _, _, _, _⟩) (gz'.keeps Fz'.keep) (dn (by assumption)) (un (by assumption)) (by assumption) (by (first | lia | omega)) (by (first | lia | omega)) ?_); (intro _ _ _ kz'); (walk_at "own aft")) | ((with_reducible show wpAny _ _ (subscriptTail (Expr.Name _ _) (Expr.Constant _ _ _) (Value.ref _) (Value.int _ _)) _ _ _); first | with_reducible (((rename News _ _ _ _ => Nz'); first | ((with_reducible show wpAny _ _ (subscriptTail _ _ (Value.ref _) (Value.int 0 _)) _ _ _); with_unfolding_all refine tup_0 (s := ⟨_, _, _, _, _⟩) (News.get Nz' (by walk_at "own mem")) ?_) | ((with_reducible show wpAny _ _ (subscriptTail _ _ (Value.ref _) (Value.int 1 _)) _ _ _); with_unfolding_all refine tup_1 (s := ⟨_, _, _, _, _⟩) (News.get Nz' (by walk_at "own mem")) ?_))) | (((rename News _ _ _ _ => Nz'); first | ((with_reducible show wpAny _ _ (subscriptTail _ _ (Value.ref _) (Value.int 0 _)) _ _ _); with_unfolding_all refine tup_0 (s := ⟨_, _, _, _, _⟩) (News.get Nz' (by walk_at "own mem")) ?_) | ((with_reducible show wpAny _ _ (subscriptTail _ _ (Value.ref _) (Value.int 1 _)) _ _ _); with_unfolding_all refine tup_1 (s := ⟨_, _, _, _, _⟩) (News.get Nz' (by walk_at "own mem")) ?_)))) | walk1 | (dsimp only; walk1) | (leave1; walk_say "STEP leave1"; try dsimp only at *) | fail "no step")
    rename Fr _ _ _ _ => Fe
    rename News _ _ _ _ => Ne
    refine LCg.CompSrc.ledger hh Fe Ne mT (Nat.le_trans (by (first | lia | omega) : vsT.size ≤ 10) (by decide)) ?_
    intro g'
    refine comp_rest ps (PairIn ts) (fun p y => ∃ t, y = .str p.1 t) (.inr ⟨_, mT, rfl, _, rfl⟩) hszT.symm (fun i v hi hv => paired_src hP hi hv) ?_ ?_
    · rintro p v I oI C oC D m₂ ys h tk E' hp ⟨b, t1, t2, rfl, hm⟩ hC hx₂ F₂ N₂
      have hm := hts _ hm
      clear Fe Ne rest hH hP hS mP mH mT
      conv => arg 6; dsimp only
      repeat' (first | wrow_close | ((with_reducible show wpAny _ _ (call (Value.builtin "str.join") _) _ _ _); first | with_reducible (((rename News _ _ _ _ => Nz'); (with_unfolding_all refine' join_listW (News.isList Nz' ?hjm) ?hjs ?hjl ?hjw ?_); (case hjm => repeat (first | assumption | exact List.Mem.head _ | apply List.Mem.tail)); (case hjs => assumption); (case hjl => decide); (case hjw => assumption); intro _ _)) | (((rename News _ _ _ _ => Nz'); (with_unfolding_all refine' join_listW (News.isList Nz' ?hjm) ?hjs ?hjl ?hjw ?_); (case hjm => repeat (first | assumption | exact List.Mem.head _ | apply List.Mem.tail)); (case hjs => assumption); (case hjl => decide); (case hjw => assumption); intro _ _))) | ((with_reducible show wpAny _ _ (call (.ref 22) _) _ _ _); (rename Fr _ _ _ _ => Fz'); (rename News _ _ _ _ => Nz'); (rename GF _ _ => gz'); (with_unfolding_all refine pretty_c (s := ⟨_, _, _, _, _⟩) (gz'.keeps Fz'.keep) (dn (by assumption)) (un (by assumption)) (by assumption) (by (first | lia | omega)) (by (first | lia | omega)) ?_); (intro _ _ _ kz'); (walk_at "own aft")) | ((with_reducible show wpAny _ _ (subscriptTail (Expr.Name _ _) (Expr.Constant _ _ _) (Value.ref _) (Value.int _ _)) _ _ _); first | with_reducible (((rename News _ _ _ _ => Nz'); first | ((with_reducible show wpAny _ _ (subscriptTail _ _ (Value.ref _) (Value.int 0 _)) _ _ _); with_unfolding_all refine tup_0 (s := ⟨_, _, _, _, _⟩) (News.get Nz' (by walk_at "own mem")) ?_) | ((with_reducible show wpAny _ _ (subscriptTail _ _ (Value.ref _) (Value.int 1 _)) _ _ _); with_unfolding_all refine tup_1 (s := ⟨_, _, _, _, _⟩) (News.get Nz' (by walk_at "own mem")) ?_))) | (((rename News _ _ _ _ => Nz'); first | ((with_reducible show wpAny _ _ (subscriptTail _ _ (Value.ref _) (Value.int 0 _)) _ _ _); with_unfolding_all refine tup_0 (s := ⟨_, _, _, _, _⟩) (News.get Nz' (by walk_at "own mem")) ?_) | ((with_reducible show wpAny _ _ (subscriptTail _ _ (Value.ref _) (Value.int 1 _)) _ _ _); with_unfolding_all refine tup_1 (s := ⟨_, _, _, _, _⟩) (News.get Nz' (by walk_at "own mem")) ?_)))) | walk1 | (dsimp only; walk1) | (leave1; walk_say "STEP leave1"; try dsimp only at *) | fail "no step")
      exact ⟨⟨_, _, rfl, fun _ _ e => e⟩, _, rfl⟩
    · intro ys hys D h tk F₃ N₃ o₃
      have hys : StrsAre ys.toArray.toList (ps.map (·.1)) := strs_paired hys
      have ok2 : okStrs (ps.map (·.1)) := heq ▸ ok
      clear Fe Ne
      conv => arg 6; dsimp only
      repeat' (first | wrow_close | ((with_reducible show wpAny _ _ (call (Value.builtin "str.join") _) _ _ _); first | with_reducible (((rename News _ _ _ _ => Nz'); (with_unfolding_all refine' join_listW (News.isList Nz' ?hjm) ?hjs ?hjl ?hjw ?_); (case hjm => repeat (first | assumption | exact List.Mem.head _ | apply List.Mem.tail)); (case hjs => assumption); (case hjl => decide); (case hjw => assumption); intro _ _)) | (((rename News _ _ _ _ => Nz'); (with_unfolding_all refine' join_listW (News.isList Nz' ?hjm) ?hjs ?hjl ?hjw ?_); (case hjm => repeat (first | assumption | exact List.Mem.head _ | apply List.Mem.tail)); (case hjs => assumption); (case hjl => decide); (case hjw => assumption); intro _ _))) | ((with_reducible show wpAny _ _ (call (.ref 22) _) _ _ _); (rename Fr _ _ _ _ => Fz'); (rename News _ _ _ _ => Nz'); (rename GF _ _ => gz'); (with_unfolding_all refine pretty_c (s := ⟨_, _, _, _, _⟩) (gz'.keeps Fz'.keep) (dn (by assumption)) (un (by assumption)) (by assumption) (by (first | lia | omega)) (by (first | lia | omega)) ?_); (intro _ _ _ kz'); (walk_at "own aft")) | ((with_reducible show wpAny _ _ (subscriptTail (Expr.Name _ _) (Expr.Constant _ _ _) (Value.ref _) (Value.int _ _)) _ _ _); first | with_reducible (((rename News _ _ _ _ => Nz'); first | ((with_reducible show wpAny _ _ (subscriptTail _ _ (Value.ref _) (Value.int 0 _)) _ _ _); with_unfolding_all refine tup_0 (s := ⟨_, _, _, _, _⟩) (News.get Nz' (by walk_at "own mem")) ?_) | ((with_reducible show wpAny _ _ (subscriptTail _ _ (Value.ref _) (Value.int 1 _)) _ _ _); with_unfolding_all refine tup_1 (s := ⟨_, _, _, _, _⟩) (News.get Nz' (by walk_at "own mem")) ?_))) | (((rename News _ _ _ _ => Nz'); first | ((with_reducible show wpAny _ _ (subscriptTail _ _ (Value.ref _) (Value.int 0 _)) _ _ _); with_unfolding_all refine tup_0 (s := ⟨_, _, _, _, _⟩) (News.get Nz' (by walk_at "own mem")) ?_) | ((with_reducible show wpAny _ _ (subscriptTail _ _ (Value.ref _) (Value.int 1 _)) _ _ _); with_unfolding_all refine tup_1 (s := ⟨_, _, _, _, _⟩) (News.get Nz' (by walk_at "own mem")) ?_)))) | walk1 | (dsimp only; walk1) | (leave1; walk_say "STEP leave1"; try dsimp only at *) | fail "no step")
      · rename Fr _ _ _ _ => Fe
        rename News _ _ _ _ => Ne
        exact rest _ _ Fe (fun p hp => Ne p (.tail _ hp))
end
-- WLg
section
noncomputable def CellJ (c : Addr) (J : (Str → Option Value) → List (Addr × Obj) → Prop) (m : Str → Option Value) (news : List (Addr × Obj)) : Prop :=
  ∃ oc vv rest, news = (c, oc) :: rest ∧ oc.data = .cell vv ∧ (∀ p ∈ rest, p.1 ≠ c) ∧ J m rest
section
variable {prog : Program} {w : World} {A : Around} {s : Shared} {env : Env} {h₀ : Heap}
theorem For_cell {E : Value → Shared → Prop} {Q : Flow → Shared → Prop} {x : Str} {px pos : Pos} {iter : Expr} {body : List Stmt} {c l : Addr} {its : Array Value} {kk : Nat} {m : Str → Option Value} {oc : Obj} {vv : Option Value} {news : List (Addr × Obj)}
    (F : Fr h₀ env.locals s.heap m) (N : News h₀ env.locals s.heap ((c, oc) :: news)) (hoc : oc.data = .cell vv) (hnc : ∀ p ∈ news, p.1 ≠ c)
    (hh : A.handled = none) (hx : env.kindOf x = some .cell) (hk : env.scope.kind = .function) (hc : env.cells.lookup x = some c)
    (J : Nat → (Str → Option Value) → List (Addr × Obj) → Prop) (h0 : J 0 m news) (hl : ∀ i m news, J i m news → (l, lstO its kk) ∈ news)
    (hiter : ∀ (Q' : Value → Shared → Prop), Q' (.ref l) s → wpAny (model prog w) A (eval iter env) Q' E s)
    (step : ∀ i v m₁ rest h tk I o oc', its[i]? = some v → J i m₁ rest → (∀ p ∈ rest, p.1 ≠ I ∧ p.1 ≠ c) → (@Ne Nat I c) → Fr h₀ env.locals h m₁ → News h₀ env.locals h ((I, o) :: (c, oc') :: rest) → oc'.data = .cell (some v) →
      wpAny (model prog w) A (execs body env) (LStep h₀ env.locals I o (CellJ c (J (i + 1))) s Q) E { s with heap := h, toks := tk })
    (done : ∀ h tk m' oc' vv' rest, Fr h₀ env.locals h m' → News h₀ env.locals h ((c, oc') :: rest) → oc'.data = .cell vv' → (∀ p ∈ rest, p.1 ≠ c) → J its.size m' rest → Q .next { s with heap := h, toks := tk })
    (hs : ∀ x, foldedSetIterable iter env x = pure x := by intro _; rfl)
    (hE : PassesOwn (model prog w) A env E := by passes_own) :
    wpAny (model prog w) A (exec (.For (.Name x px) iter body [] pos) env) Q E s := by
  refine wpAny_For (hiter _ ?_) hs
  have hlm := N.get (.tail _ (hl _ _ _ h0))
  have hll : s.heap.IsList l its := IsL.isList hlm
  have hlt : l < s.heap.objs.size := Heap.lt_size hlm
  have hne : l ≠ s.heap.objs.size := Nat.ne_of_lt hlt
  refine wpAny_pyIter_list hll ?_
  have hLI : env.locals ≠ s.heap.objs.size := fun e => by have := F.ns.lt; rw [e] at this; exact Nat.lt_irrefl _ this
  have hlL : l ≠ env.locals := (N _ (.tail _ (hl _ _ _ h0))).2.1
  have up : ∀ b o, s.heap.get? b = some o → (s.heap.push { cls := .type "list_iterator", data := .fields #[.ref l, .int 0 0] }).get? b = some o := fun b o e => Heap.get?_push_of_some _ e
  refine floop (R := fun r s' => match r with | .ok f => Q f s' | .error e => cameBackBy (model prog w) A env E e s') (s := { s with heap := s.heap.push { cls := .type "list_iterator", data := .fields #[.ref l, .int 0 0] } })
    (Walks.list hh s.heap.objs.size l hne its) ?_ (next_is_new F) (fun i h st => ?_) (news := (c, oc) :: news) (fun p hp e => ?_) ⟨⟨_, Heap.get?_push_size _ rfl, rfl, rfl⟩, hll.at fun o e => up _ _ e⟩ (F.push _)
    (fun p hp => ⟨up _ _ (N p hp).1, (N p hp).2⟩) (fun i => CellJ c (J i)) ⟨oc, vv, news, rfl, hoc, hnc, h0⟩ (fun b hb hne' => ?_) ?_ ?_ (by intro _; rfl)
  · intro hm
    rcases List.mem_cons.mp hm with e | hm
    · exact hLI e
    · exact hlL (List.mem_singleton.mp hm).symm
  · obtain ⟨⟨o, ho, _⟩, _⟩ := st; exact ⟨o, ho⟩
  · exact absurd (Heap.lt_size (N p hp).1) (e ▸ Nat.lt_irrefl _)
  · rcases List.mem_cons.mp hb with e | hm
    · exact absurd e hne'
    · rw [List.mem_singleton.mp hm]
      exact ⟨lstO its kk, .inr fun i m₁ nw j => by obtain ⟨oc', vv', rest, rfl, _, _, j⟩ := j; exact .tail _ (hl _ _ _ j)⟩
  · rintro i v m₁ nw h tk o hi hv ⟨oc', vv', rest, rfl, hoc', hnr, j⟩ hoff F₁ N₁
    have hIc : (@Ne Nat s.heap.objs.size c) := fun e => hoff _ (.head _) e.symm
    refine wpAny_assign_Name (wpAny_storeName_cell hk hx hc ⟨oc', (N₁ _ (.tail _ (.head _))).1, hoc'⟩ fun h₂ hv₂ hs₂ => ?_)
    obtain ⟨o₂, ho₂, hd₂⟩ := hv₂
    replace hs₂ : Heap.SameBut c h h₂ := hs₂
    have hcm := N₁ _ (.tail _ (.head _))
    have F₂ : Fr h₀ env.locals h₂ m₁ := ⟨F₁.ns.sameBut hs₂ (Ne.symm hcm.2.1), fun b ob e => (hs₂.2 b (fun q => by rw [q, hcm.2.2] at e; cases e)).trans (F₁.keep b ob e), F₁.above⟩
    have N₂ : News h₀ env.locals h₂ ((s.heap.objs.size, o) :: (c, o₂) :: rest) := fun p hp => by
      rcases List.mem_cons.mp hp with rfl | hp
      · exact ⟨(hs₂.2 _ hIc).trans (N₁ _ (.head _)).1, (N₁ _ (.head _)).2⟩
      · rcases List.mem_cons.mp hp with rfl | hp
        · exact ⟨ho₂, hcm.2⟩
        · exact ⟨(hs₂.2 _ (hnr p hp)).trans (N₁ _ (.tail _ (.tail _ hp))).1, (N₁ _ (.tail _ (.tail _ hp))).2⟩
    have key := step i v m₁ rest h₂ tk _ o o₂ hv j (fun p hp => ⟨hoff p (.tail _ hp), hnr p hp⟩) hIc F₂ N₂ hd₂
    exact wpAny_passesOwn hE key
  · rintro h tk m' nw F' N' ⟨oc', vv', rest, rfl, hoc', hnr, j⟩
    exact wpAny_passesOwn hE (wpAny_execs_nil (done h tk m' oc' vv' rest F' N' hoc' hnr j))
end
noncomputable def shelfS (k : Nat) : PySem.Str := Txt.lower (Txt.join (PySem.Str.ofString ", ") (prettyS (1 * 2 ^ ((k : Nat) : Int).toNat)))
theorem shelf_is : ∀ k, k < 10 → shelfS k = sL (nm k) := by decide +kernel
theorem shelf_pow : ∀ k, k < 10 → (1 : Int) * 2 ^ ((k : Nat) : Int).toNat ≤ 100000000000 ∧ (-100000000000 : Int) ≤ 1 * 2 ^ ((k : Nat) : Int).toNat := by decide
theorem shelf_len : ∀ k, k < 10 → (Txt.join (PySem.Str.ofString ", ") (prettyS (1 * 2 ^ ((k : Nat) : Int).toNat))).length ≤ 100 := by decide +kernel
noncomputable def EltN (h₀ : Heap) (L : Addr) (m : Str → Option Value) (s : Shared) (news : List (Addr × Obj)) (G : Value → Prop) (y : Value) (s₂ : Shared) : Prop :=
  ∃ h' tk', s₂ = { s with heap := h', toks := tk' } ∧ Fr h₀ L h' m ∧ News h₀ L h' news ∧ G y
section
variable {prog : Program} {w : World} {A : Around} {h₀ : Heap} {L : Addr} {m : Str → Option Value} {env : Env} {elt ct : Expr} {x : Str} {scope : Scope} {cl : List (Str × Addr)} {s : Shared} {S : List (Addr × Obj) → Prop} {P : Nat → Value → Prop} {Fin : List Value → List (Addr × Obj) → Prop} {news : List (Addr × Obj)} {n : Nat}
theorem comp_restN {α : Type} (ks : List α) (V : α → Value → Prop) (G : α → Value → Prop) (hS : S news) (hlen : ks.length = n) (hP : ∀ i v, i < n → P i v → ∃ a, ks[i]? = some a ∧ V a v)
    (turn : ∀ a v I oI C oC D m₂ ys h tk (E' : Value → Shared → Prop), a ∈ ks → V a v → LCg.NsObj oC m₂ → m₂ x = some v → Fr h₀ L h m → News h₀ L h ((I, oI) :: (C, oC) :: (D, LCg.lst ys) :: news) →
      wpAny (model prog w) A (eval elt (compEnvC scope cl C env)) (EltN h₀ L m s ((I, oI) :: (C, oC) :: (D, LCg.lst ys) :: news) (G a)) E' { s with heap := h, toks := tk })
    (fin : ∀ ys, Paired G ks ys → Fin ys news) : LCg.CompRest prog w A h₀ L m env elt x scope cl s S P Fin n 0 [] news := by
  have key : ∀ (j i : Nat) (ys : List Value), i + j = n → Paired G (ks.take i) ys → LCg.CompRest prog w A h₀ L m env elt x scope cl s S P Fin j i ys news := by
    intro j
    induction j with
    | zero =>
      intro i ys hi hy
      have e : i = ks.length := by (first | lia | omega)
      subst e
      rw [List.take_length] at hy
      exact LCg.CompRest.zero (fin ys hy)
    | succ j ih =>
      intro i ys hi hy
      refine LCg.CompRest.succ ?_
      intro v I oI C oC D m₂ h tk E' hv hC hx F N off ne
      obtain ⟨a, ha, hV⟩ := hP i v (by (first | lia | omega)) hv
      refine wpAny_mono (turn a v I oI C oC D m₂ ys h tk E' (List.mem_of_getElem? ha) hV hC hx F N) (fun y s₂ hq => ?_) fun _ _ e => e
      obtain ⟨h', tk', e, F', N', hg⟩ := hq
      refine ⟨h', tk', news, e, F', N', off, hS, ?_⟩
      refine ih (i + 1) _ (by (first | lia | omega)) ?_
      rw [List.take_add_one, ha]
      exact Paired.snoc hy hg
  exact key n 0 [] (by (first | lia | omega)) (by rw [List.take_zero]; exact .nil)
end
end
-- WL8
section
set_option maxHeartbeats 4000000 in
theorem law_shelf {w : World} {s s₀ : Shared} {A : Around} {Q : Flow → Shared → Prop} {h₀ : Heap} {L fa : Addr} {cd : Value} {mg mb m : PySem.Str → Option Value} {news0 : List (Addr × Obj)} (T : Top qv (looseW qv looseX) (ExcName.means s₀.heap) mg mb h₀) (GL : GLt mg mb h₀) (KX : (kF w.params).In h₀) (g : GF w h₀)
    (F : Fr h₀ L s.heap m) (N : News h₀ L s.heap news0) (hA : A.depth ≤ 370) (hU : A.units ≤ 60) (hh : A.handled = none) 
    (rest : ∀ h tk D ys, Fr h₀ L h (fun z => if z = (PySem.Str.ofString "shelf") then some (.ref D) else m z) → News h₀ L h ((D, lstO ys 10) :: news0) → StrsAre ys.toList ((List.range 10).map fun k => sL (nm k)) → Q .next { s with heap := h, toks := tk }) :
    wpAny (model pw w) (A.deeper (envOfC (PySem.Str.ofString "law") (fdS 32) L fa cd)) (exec ((fdB 32).getD 8 dStmt) (envOfC (PySem.Str.ofString "law") (fdS 32) L fa cd)) Q (fun _ _ => False) s := by
  conv => pattern List.getD (fdB 32) _ _; whnf
  conv => pattern (occs := *) fdS 32; all_goals whnf
  w_on
  repeat' (first | wrow_close | ((with_reducible show wpAny _ _ (call (.ref 43) _) _ _ _); (rename Fr _ _ _ _ => Fz'); (rename News _ _ _ _ => Nz'); (rename GF _ _ => gz'); (with_unfolding_all refine lshift_c (s := ⟨_, _, _, _, _⟩) (gz'.keeps Fz'.keep) (dn (by assumption)) (un (by assumption)) (by assumption) (by omega) (by omega) (by decide) (by decide) ?_); (intro _ _ _ kz'); (walk_at "own aft")) | ((with_reducible show wpAny _ _ (call (.ref 22) _) _ _ _); (rename Fr _ _ _ _ => Fz'); (rename News _ _ _ _ => Nz'); (rename GF _ _ => gz'); (with_unfolding_all refine pretty_c (s := ⟨_, _, _, _, _⟩) (gz'.keeps Fz'.keep) (dn (by assumption)) (un (by assumption)) (by assumption) (by assumption) (by assumption) ?_); (intro _ _ _ kz'); (walk_at "own aft")) | walk1 | (dsimp only; walk1) | (leave1; walk_say "STEP leave1"; try dsimp only at *) | fail "no step")
  refine Halt.on ?_
  rename Fr _ _ _ _ => Fe
  rename News _ _ _ _ => Ne
  with_unfolding_all refine LCg.Assign_ListComp_U Fe (by rfl) (by with_unfolding_all rfl) (by rfl) (by decide) (by rfl) (by decide) (by rfl) (by rfl) (by rfl) ?_
  repeat' (first | wrow_close | ((with_reducible show wpAny _ _ (call (.ref 43) _) _ _ _); (rename Fr _ _ _ _ => Fz'); (rename News _ _ _ _ => Nz'); (rename GF _ _ => gz'); (with_unfolding_all refine lshift_c (s := ⟨_, _, _, _, _⟩) (gz'.keeps Fz'.keep) (dn (by assumption)) (un (by assumption)) (by assumption) (by omega) (by omega) (by decide) (by decide) ?_); (intro _ _ _ kz'); (walk_at "own aft")) | ((with_reducible show wpAny _ _ (call (.ref 22) _) _ _ _); (rename Fr _ _ _ _ => Fz'); (rename News _ _ _ _ => Nz'); (rename GF _ _ => gz'); (with_unfolding_all refine pretty_c (s := ⟨_, _, _, _, _⟩) (gz'.keeps Fz'.keep) (dn (by assumption)) (un (by assumption)) (by assumption) (by assumption) (by assumption) ?_); (intro _ _ _ kz'); (walk_at "own aft")) | walk1 | (dsimp only; walk1) | (leave1; walk_say "STEP leave1"; try dsimp only at *) | fail "no step")
  rename Fr _ _ _ _ => Fe
  rename News _ _ _ _ => Ne
  refine LCg.CompSrc.range (n := 10) hh Fe Ne (by assumption) (by decide) (by decide) (by decide) ?_
  intro g'
  refine comp_restN (List.range 10) (fun k v => ∃ t, v = .int ((k : Nat) : Int) t) (fun k y => ∃ t, y = .str (shelfS k) t) trivial (by simp) (fun i v hi hv => ⟨i, by rw [List.getElem?_range hi], by obtain ⟨t, rfl⟩ := hv; exact ⟨t, by rw [Int.zero_add]⟩⟩) ?_ ?_
  · rintro k v I oI C oC D m₂ ys h tk E' hk ⟨t, rfl⟩ hC hx₂ F₂ N₂
    have hk := List.mem_range.mp hk
    obtain ⟨hp1, hp2⟩ := shelf_pow k hk
    have hp3 := shelf_len k hk
    clear Fe Ne rest
    conv => arg 6; dsimp only
    repeat' (first | wrow_close | ((with_reducible show wpAny _ _ (call (.ref 43) _) _ _ _); (rename Fr _ _ _ _ => Fz'); (rename News _ _ _ _ => Nz'); (rename GF _ _ => gz'); (with_unfolding_all refine lshift_c (s := ⟨_, _, _, _, _⟩) (gz'.keeps Fz'.keep) (dn (by assumption)) (un (by assumption)) (by assumption) (by omega) (by omega) (by decide) (by decide) ?_); (intro _ _ _ kz'); (walk_at "own aft")) | ((with_reducible show wpAny _ _ (call (.ref 22) _) _ _ _); (rename Fr _ _ _ _ => Fz'); (rename News _ _ _ _ => Nz'); (rename GF _ _ => gz'); (with_unfolding_all refine pretty_c (s := ⟨_, _, _, _, _⟩) (gz'.keeps Fz'.keep) (dn (by assumption)) (un (by assumption)) (by assumption) (by assumption) (by assumption) ?_); (intro _ _ _ kz'); (walk_at "own aft")) | walk1 | (dsimp only; walk1) | (leave1; walk_say "STEP leave1"; try dsimp only at *) | fail "no step")
    rename Fr _ _ _ _ => Fe
    rename News _ _ _ _ => Ne
    exact ⟨_, _, rfl, Fe, Ne, _, rfl⟩
  · intro ys hys D h tk F₃ N₃ o₃
    have hys : StrsAre ys.toArray.toList ((List.range 10).map shelfS) := strs_paired hys
    have hlen : ys.length = 10 := by have := StrsAre.len hys; simpa using this
    have N₄ : News h₀ L h ((D, lstO ys.toArray 10) :: news0) := by
      have e : lstO ys.toArray 10 = LCg.lst ys := by show lstO ys.toArray 10 = lstO ys.toArray ys.length; rw [hlen]
      rw [e]; exact N₃
    refine rest _ _ _ _ F₃ N₄ ?_
    have e : (List.range 10).map shelfS = (List.range 10).map fun k => sL (nm k) := List.map_congr_left fun k hk => shelf_is k (List.mem_range.mp hk)
    rw [← e]; exact hys
end
-- WL9
section
set_option maxHeartbeats 4000000 in
theorem law_wt {w : World} {s s₀ : Shared} {A : Around} {E : Value → Shared → Prop} {h₀ : Heap} {L fa : Addr} {cd : Value} {mg mb m : PySem.Str → Option Value} {I : Addr} {oI oc : Obj} {news0 : List (Addr × Obj)} {x : PySem.Str} {tx : Tok} {b1 b2 : Bool} (T : Top qv (looseW qv looseX) (ExcName.means s₀.heap) mg mb h₀) (GL : GLt mg mb h₀) (KX : (kF w.params).In h₀) (g : GF w h₀)
    (F : Fr h₀ L s.heap m) (N : News h₀ L s.heap ((I, oI) :: (L + 1, oc) :: news0)) (hA : A.depth ≤ 370) (hU : A.units ≤ 60) (hh : A.handled = none) (hoc : oc.data = .cell (some (.str x tx))) (hx1 : 1 ≤ x.length) (hx2 : x.length ≤ 100) (h0 : (Txt.item x 0 == PySem.Str.ofString "0") = b1) (h1 : (Txt.item x 0 == PySem.Str.ofString "-") = b2) :
    wpAny (model pw w) (A.deeper (envOfC (PySem.Str.ofString "law") (fdS 32) L fa cd)) (isTrue (stTest ((stBody ((fdB 32).getD 11 dStmt)).getD 0 dStmt)) (envOfC (PySem.Str.ofString "law") (fdS 32) L fa cd) (eval (stTest ((stBody ((fdB 32).getD 11 dStmt)).getD 0 dStmt)) (envOfC (PySem.Str.ofString "law") (fdS 32) L fa cd))) (TestEnd s (b1 || b2)) E s := by
  conv => pattern (occs := *) stTest _; all_goals whnf
  conv => pattern (occs := *) fdS 32; all_goals whnf
  w_on
  repeat' (first | wrow_close | ((with_reducible show wpAny _ _ (call (.ref 210) _) _ _ _); (rename Fr _ _ _ _ => Fz'); (rename News _ _ _ _ => Nz'); (rename GF _ _ => gz'); (with_unfolding_all first | refine six_pos (s := ⟨_, _, _, _, _⟩) (gz'.keeps Fz'.keep) (dn (by assumption)) (un (by assumption)) (by assumption) (by assumption) (by assumption) (by assumption) ?_ | refine six_neg (s := ⟨_, _, _, _, _⟩) (gz'.keeps Fz'.keep) (dn (by assumption)) (un (by assumption)) (by assumption) (by assumption) (by assumption) (by assumption) ?_); (intro _ _ _ kz'); (walk_at "own aft")) | ((with_reducible show wpAny _ _ (call (.ref 57) _) _ _ _); (rename Fr _ _ _ _ => Fz'); (rename News _ _ _ _ => Nz'); (rename GF _ _ => gz'); (with_unfolding_all refine or_c (s := ⟨_, _, _, _, _⟩) (gz'.keeps Fz'.keep) (dn (by assumption)) (un (by assumption)) (by assumption) ?_); (intro _ _ _ kz'); (walk_at "own aft")) | walk1 | (dsimp only; walk1) | (leave1; walk_say "STEP leave1"; try dsimp only at *) | fail "no step")
  all_goals refine ⟨?_, _, rfl⟩
  all_goals (rw [← h0, ← h1]; simp_all)
set_option maxHeartbeats 4000000 in
theorem law_wnum_p {w : World} {s s₀ : Shared} {A : Around} {Q : Flow → Shared → Prop} {h₀ : Heap} {L fa : Addr} {cd : Value} {mg mb m : PySem.Str → Option Value} {I : Addr} {oI oc : Obj} {news0 : List (Addr × Obj)} {x : PySem.Str} {tx : Tok} {d k : Nat} {fnd : Int} {tf : Tok} (T : Top qv (looseW qv looseX) (ExcName.means s₀.heap) mg mb h₀) (GL : GLt mg mb h₀) (KX : (kF w.params).In h₀) (g : GF w h₀)
    (F : Fr h₀ L s.heap m) (N : News h₀ L s.heap ((I, oI) :: (L + 1, oc) :: news0)) (hA : A.depth ≤ 370) (hU : A.units ≤ 60) (hh : A.handled = none) (hoc : oc.data = .cell (some (.str x tx))) (hx : sL (figL d k) = x) (hd : d < 10) (hk : k ≤ 8) (mf : m (PySem.Str.ofString "found") = some (.int fnd tf))
    (rest : ∀ h tk t', Fr h₀ L h (fun z => if z = (PySem.Str.ofString "found") then some (.int (Builtin.bitOr fnd ((d : Int) * 2 ^ (4 * k))) t') else m z) → News h₀ L h ((I, oI) :: (L + 1, oc) :: news0) → Q .next { s with heap := h, toks := tk }) :
    wpAny (model pw w) (A.deeper (envOfC (PySem.Str.ofString "law") (fdS 32) L fa cd)) (exec ((stBody ((stBody ((fdB 32).getD 11 dStmt)).getD 0 dStmt)).getD 0 dStmt) (envOfC (PySem.Str.ofString "law") (fdS 32) L fa cd)) Q (fun _ _ => False) s := by
  conv => pattern List.getD (stBody ((stBody ((fdB 32).getD 11 dStmt)).getD 0 dStmt)) _ _; whnf
  conv => pattern (occs := *) fdS 32; all_goals whnf
  w_on
  repeat' (first | wrow_close | ((with_reducible show wpAny _ _ (call (.ref 210) _) _ _ _); (rename Fr _ _ _ _ => Fz'); (rename News _ _ _ _ => Nz'); (rename GF _ _ => gz'); (with_unfolding_all first | refine six_pos (s := ⟨_, _, _, _, _⟩) (gz'.keeps Fz'.keep) (dn (by assumption)) (un (by assumption)) (by assumption) (by assumption) (by assumption) (by assumption) ?_ | refine six_neg (s := ⟨_, _, _, _, _⟩) (gz'.keeps Fz'.keep) (dn (by assumption)) (un (by assumption)) (by assumption) (by assumption) (by assumption) (by assumption) ?_); (intro _ _ _ kz'); (walk_at "own aft")) | ((with_reducible show wpAny _ _ (call (.ref 57) _) _ _ _); (rename Fr _ _ _ _ => Fz'); (rename News _ _ _ _ => Nz'); (rename GF _ _ => gz'); (with_unfolding_all refine or_c (s := ⟨_, _, _, _, _⟩) (gz'.keeps Fz'.keep) (dn (by assumption)) (un (by assumption)) (by assumption) ?_); (intro _ _ _ kz'); (walk_at "own aft")) | walk1 | (dsimp only; walk1) | (leave1; walk_say "STEP leave1"; try dsimp only at *) | fail "no step")
  rename Fr _ _ _ _ => Fe
  rename News _ _ _ _ => Ne
  exact rest _ _ _ Fe Ne
set_option maxHeartbeats 4000000 in
theorem law_wnum_n {w : World} {s s₀ : Shared} {A : Around} {Q : Flow → Shared → Prop} {h₀ : Heap} {L fa : Addr} {cd : Value} {mg mb m : PySem.Str → Option Value} {I : Addr} {oI oc : Obj} {news0 : List (Addr × Obj)} {x : PySem.Str} {tx : Tok} {d k : Nat} {fnd : Int} {tf : Tok} (T : Top qv (looseW qv looseX) (ExcName.means s₀.heap) mg mb h₀) (GL : GLt mg mb h₀) (KX : (kF w.params).In h₀) (g : GF w h₀)
    (F : Fr h₀ L s.heap m) (N : News h₀ L s.heap ((I, oI) :: (L + 1, oc) :: news0)) (hA : A.depth ≤ 370) (hU : A.units ≤ 60) (hh : A.handled = none) (hoc : oc.data = .cell (some (.str x tx))) (hx : sL (45 :: figL d k) = x) (hd : d < 10) (hk : k ≤ 8) (mf : m (PySem.Str.ofString "found") = some (.int fnd tf))
    (rest : ∀ h tk t', Fr h₀ L h (fun z => if z = (PySem.Str.ofString "found") then some (.int (Builtin.bitOr fnd (-((d : Int) * 2 ^ (4 * k)))) t') else m z) → News h₀ L h ((I, oI) :: (L + 1, oc) :: news0) → Q .next { s with heap := h, toks := tk }) :
    wpAny (model pw w) (A.deeper (envOfC (PySem.Str.ofString "law") (fdS 32) L fa cd)) (exec ((stBody ((stBody ((fdB 32).getD 11 dStmt)).getD 0 dStmt)).getD 0 dStmt) (envOfC (PySem.Str.ofString "law") (fdS 32) L fa cd)) Q (fun _ _ => False) s := by
  conv => pattern List.getD (stBody ((stBody ((fdB 32).getD 11 dStmt)).getD 0 dStmt)) _ _; whnf
  conv => pattern (occs := *) fdS 32; all_goals whnf
  w_on
  repeat' (first | wrow_close | ((with_reducible show wpAny _ _ (call (.ref 210) _) _ _ _); (rename Fr _ _ _ _ => Fz'); (rename News _ _ _ _ => Nz'); (rename GF _ _ => gz'); (with_unfolding_all first | refine six_pos (s := ⟨_, _, _, _, _⟩) (gz'.keeps Fz'.keep) (dn (by assumption)) (un (by assumption)) (by assumption) (by assumption) (by assumption) (by assumption) ?_ | refine six_neg (s := ⟨_, _, _, _, _⟩) (gz'.keeps Fz'.keep) (dn (by assumption)) (un (by assumption)) (by assumption) (by assumption) (by assumption) (by assumption) ?_); (intro _ _ _ kz'); (walk_at "own aft")) | ((with_reducible show wpAny _ _ (call (.ref 57) _) _ _ _); (rename Fr _ _ _ _ => Fz'); (rename News _ _ _ _ => Nz'); (rename GF _ _ => gz'); (with_unfolding_all refine or_c (s := ⟨_, _, _, _, _⟩) (gz'.keeps Fz'.keep) (dn (by assumption)) (un (by assumption)) (by assumption) ?_); (intro _ _ _ kz'); (walk_at "own aft")) | walk1 | (dsimp only; walk1) | (leave1; walk_say "STEP leave1"; try dsimp only at *) | fail "no step")
  rename Fr _ _ _ _ => Fe
  rename News _ _ _ _ => Ne
  exact rest _ _ _ Fe Ne
end
-- WLh
section
theorem shelf_src {vs : Array Value} (h : StrsAre vs.toList ((List.range 10).map fun k => sL (nm k))) {i : Nat} {v : Value} (hi : i < vs.size) (hv : vs[i]? = some v) : ∃ k, (List.range 10)[i]? = some k ∧ ∃ t, v = .str (sL (nm k)) t := by
  obtain ⟨x, hx, t, rfl⟩ := strs_src h i v hi hv
  have hl : vs.size = 10 := by rw [strs_size h]; simp
  rw [List.getElem?_map, List.getElem?_range (by (first | lia | omega))] at hx
  exact ⟨i, List.getElem?_range (by (first | lia | omega)), t, by rw [← Option.some.inj hx]⟩
theorem nm_len {k : Nat} (h : k < 10) : (nm k).length ≤ 25 := by have := (nm_chars k h).2.1; (first | lia | omega)
theorem lst_10 {ys : List Value} (h : ys.length = 10) : LCg.lst ys = lstO ys.toArray 10 := by show lstO ys.toArray ys.length = lstO ys.toArray 10; rw [h]
theorem off1_mem {D : Addr} : ∀ {l : List (Addr × Obj)}, PyProof.Rows.LCg.Off1 D l → ∀ p ∈ l, p.1 ≠ D
  | [], _, _, h => nomatch h
  | _ :: _, x, p, h => by
    rcases List.mem_cons.mp h with rfl | h
    · exact x.1
    · exact off1_mem x.2 p h
end
-- WL10
section
local macro_rules | `(tactic| walk_at "eval Name") => `(tactic| ((with_reducible show wpAny _ _ (eval (Expr.Name (PySem.Str.ofString "word") _) (compEnvC _ _ _ _)) _ _ _); (rename News _ _ _ _ => N'); (with_unfolding_all refine kcf_cell N' (by rfl) (by walk_at "own mem") (by assumption) ?_)))
set_option maxHeartbeats 4000000 in
theorem law_asked {w : World} {s s₀ : Shared} {A : Around} {Q : Flow → Shared → Prop} {h₀ : Heap} {L fa : Addr} {cd : Value} {mg mb m : PySem.Str → Option Value} {I : Addr} {oI oc : Obj} {news0 : List (Addr × Obj)} {a : List Nat} {tx : Tok} {Sh : Addr} {vsS : Array Value} {cS : Nat} (T : Top qv (looseW qv looseX) (ExcName.means s₀.heap) mg mb h₀) (GL : GLt mg mb h₀) (KX : (kF w.params).In h₀) (g : GF w h₀)
    (F : Fr h₀ L s.heap m) (N : News h₀ L s.heap ((I, oI) :: (L + 1, oc) :: news0)) (hA : A.depth ≤ 370) (hU : A.units ≤ 60) (hh : A.handled = none) (hoc : oc.data = .cell (some (.str (sL a) tx))) (hal : a.length ≤ 25) (hS : StrsAre vsS.toList ((List.range 10).map fun k => sL (nm k))) (hm : (Sh, lstO vsS cS) ∈ news0) (ms : m (PySem.Str.ofString "shelf") = some (.ref Sh))
    (rest : ∀ h tk D ys, Fr h₀ L h (fun z => if z = (PySem.Str.ofString "asked") then some (.ref D) else m z) → News h₀ L h ((D, lstO ys 10) :: (I, oI) :: (L + 1, oc) :: news0) → IntsAre ys.toList ((List.range 10).map fun k => levS a (nm k)) → LCg.Off1 D ((I, oI) :: (L + 1, oc) :: news0) → Q .next { s with heap := h, toks := tk }) :
    wpAny (model pw w) (A.deeper (envOfC (PySem.Str.ofString "law") (fdS 32) L fa cd)) (exec ((stElse ((stBody ((fdB 32).getD 11 dStmt)).getD 0 dStmt)).getD 0 dStmt) (envOfC (PySem.Str.ofString "law") (fdS 32) L fa cd)) Q (fun _ _ => False) s := by
  conv => pattern List.getD (stElse ((stBody ((fdB 32).getD 11 dStmt)).getD 0 dStmt)) _ _; whnf
  conv => pattern (occs := *) fdS 32; all_goals whnf
  w_on
  have hsz : vsS.size = 10 := by rw [strs_size hS]; simp
  repeat' (first | wrow_close | ((with_reducible show wpAny _ _ (call (.ref 177) _) _ _ _); (rename Fr _ _ _ _ => Fz'); (rename News _ _ _ _ => Nz'); (rename GF _ _ => gz'); (with_unfolding_all refine lev_c (s := ⟨_, _, _, _, _⟩) (gz'.keeps Fz'.keep) (dn (by assumption)) (un (by assumption)) (by assumption) (by assumption) (by assumption) ?_); (intro _ _ _ kz'); (walk_at "own aft")) | walk1 | (dsimp only; walk1) | (leave1; walk_say "STEP leave1"; try dsimp only at *) | fail "no step")
  refine Halt.on ?_
  rename Fr _ _ _ _ => Fe
  rename News _ _ _ _ => Ne
  with_unfolding_all refine LCg.Assign_ListComp_U Fe (by rfl) (by with_unfolding_all rfl) (by rfl) (by decide) (by rfl) (by decide) (by rfl) (by rfl) (by rfl) ?_
  repeat' (first | wrow_close | ((with_reducible show wpAny _ _ (call (.ref 177) _) _ _ _); (rename Fr _ _ _ _ => Fz'); (rename News _ _ _ _ => Nz'); (rename GF _ _ => gz'); (with_unfolding_all refine lev_c (s := ⟨_, _, _, _, _⟩) (gz'.keeps Fz'.keep) (dn (by assumption)) (un (by assumption)) (by assumption) (by assumption) (by assumption) ?_); (intro _ _ _ kz'); (walk_at "own aft")) | walk1 | (dsimp only; walk1) | (leave1; walk_say "STEP leave1"; try dsimp only at *) | fail "no step")
  rename Fr _ _ _ _ => Fe
  rename News _ _ _ _ => Ne
  refine LCg.CompSrc.ledger hh Fe Ne (.tail _ (.tail _ hm)) (by rw [hsz]; decide) ?_
  intro g'
  refine comp_restN (List.range 10) (fun k v => ∃ t, v = .str (sL (nm k)) t) (fun k y => ∃ t, y = .int (levS a (nm k)) t) (.inr ⟨_, (.tail _ (.tail _ hm)), rfl, _, rfl⟩) (by rw [hsz]; simp) (fun i v hi hv => shelf_src hS hi hv) ?_ ?_
  · rintro k v I oI C oC D m₂ ys h tk E' hk ⟨t, rfl⟩ hC hx₂ F₂ N₂
    have hk := List.mem_range.mp hk
    have hnl := nm_len hk
    clear Fe Ne rest hS hm
    conv => arg 6; dsimp only
    repeat' (first | wrow_close | ((with_reducible show wpAny _ _ (call (.ref 177) _) _ _ _); (rename Fr _ _ _ _ => Fz'); (rename News _ _ _ _ => Nz'); (rename GF _ _ => gz'); (with_unfolding_all refine lev_c (s := ⟨_, _, _, _, _⟩) (gz'.keeps Fz'.keep) (dn (by assumption)) (un (by assumption)) (by assumption) (by assumption) (by assumption) ?_); (intro _ _ _ kz'); (walk_at "own aft")) | walk1 | (dsimp only; walk1) | (leave1; walk_say "STEP leave1"; try dsimp only at *) | fail "no step")
    rename Fr _ _ _ _ => Fe
    rename News _ _ _ _ => Ne
    exact ⟨_, _, rfl, Fe, Ne, _, rfl⟩
  · intro ys hys D h tk F₃ N₃ o₃
    have hys : IntsAre ys.toArray.toList ((List.range 10).map fun k => levS a (nm k)) := ints_paired hys
    have hlen : ys.length = 10 := by have := ints_len hys; simpa using this
    rw [lst_10 hlen] at N₃
    exact rest _ _ _ _ F₃ N₃ hys o₃
end
-- WLi
section
theorem bools_paired {α : Type} {f : α → Bool} {l : List α} {ys : List Value} (h : Paired (fun a y => y = .bool (f a)) l ys) : ys = (l.map f).map Value.bool := by
  induction h with
  | nil => rfl
  | cons h _ ih => rw [h, ih]; rfl
abbrev boolsO (bs : List Bool) (n : Nat) : Obj := { cls := .type "list", data := .seq (bs.map Value.bool).toArray n }
end
-- WL11
section
local macro_rules | `(tactic| walk_at "a pad of the join") => `(tactic| fail)
set_option maxHeartbeats 4000000 in
theorem law_near {w : World} {s s₀ : Shared} {A : Around} {Q : Flow → Shared → Prop} {h₀ : Heap} {L fa : Addr} {cd : Value} {mg mb m : PySem.Str → Option Value} {As : Addr} {vsA : Array Value} {cA : Nat} {is : List Int} {news0 : List (Addr × Obj)} (T : Top qv (looseW qv looseX) (ExcName.means s₀.heap) mg mb h₀) (GL : GLt mg mb h₀) (KX : (kF w.params).In h₀) (g : GF w h₀)
    (F : Fr h₀ L s.heap m) (N : News h₀ L s.heap news0) (hA : A.depth ≤ 370) (hU : A.units ≤ 60) (hh : A.handled = none) (hI : IntsAre vsA.toList is) (hz : is.length ≤ 10) (hm : (As, lstO vsA cA) ∈ news0) (ms : m (PySem.Str.ofString "asked") = some (.ref As))
    (rest : ∀ h tk D n, Fr h₀ L h (fun z => if z = (PySem.Str.ofString "near") then some (.ref D) else m z) → News h₀ L h ((D, boolsO (is.map fun a => decide (a ≤ 2)) n) :: news0) → LCg.Off1 D news0 → Q .next { s with heap := h, toks := tk }) :
    wpAny (model pw w) (A.deeper (envOfC (PySem.Str.ofString "law") (fdS 32) L fa cd)) (exec ((stElse ((stBody ((fdB 32).getD 11 dStmt)).getD 0 dStmt)).getD 1 dStmt) (envOfC (PySem.Str.ofString "law") (fdS 32) L fa cd)) Q (fun _ _ => False) s := by
  conv => pattern List.getD (stElse ((stBody ((fdB 32).getD 11 dStmt)).getD 0 dStmt)) _ _; whnf
  conv => pattern (occs := *) fdS 32; all_goals whnf
  w_on
  have hsz : vsA.size = is.length := by rw [← ints_len hI]; simp
  repeat' (first | wrow_close | ((with_reducible show wpAny _ _ (call (.ref 29) _) _ _ _); (rename Fr _ _ _ _ => Fz'); (rename News _ _ _ _ => Nz'); (rename GF _ _ => gz'); (with_unfolding_all refine le_c (s := ⟨_, _, _, _, _⟩) (gz'.keeps Fz'.keep) (dn (by assumption)) (un (by assumption)) (by assumption) ?_); (intro _ _ kz'); (walk_at "own aft")) | walk1 | (dsimp only; walk1) | (leave1; walk_say "STEP leave1"; try dsimp only at *) | fail "no step")
  refine Halt.on ?_
  rename Fr _ _ _ _ => Fe
  rename News _ _ _ _ => Ne
  with_unfolding_all refine LCg.Assign_ListComp_U Fe (by rfl) (by with_unfolding_all rfl) (by rfl) (by decide) (by rfl) (by decide) (by rfl) (by rfl) (by rfl) ?_
  repeat' (first | wrow_close | ((with_reducible show wpAny _ _ (call (.ref 29) _) _ _ _); (rename Fr _ _ _ _ => Fz'); (rename News _ _ _ _ => Nz'); (rename GF _ _ => gz'); (with_unfolding_all refine le_c (s := ⟨_, _, _, _, _⟩) (gz'.keeps Fz'.keep) (dn (by assumption)) (un (by assumption)) (by assumption) ?_); (intro _ _ kz'); (walk_at "own aft")) | walk1 | (dsimp only; walk1) | (leave1; walk_say "STEP leave1"; try dsimp only at *) | fail "no step")
  rename Fr _ _ _ _ => Fe
  rename News _ _ _ _ => Ne
  refine LCg.CompSrc.ledger hh Fe Ne hm (Nat.le_trans (by omega : vsA.size ≤ 10) (by decide)) ?_
  intro g'
  refine comp_restN is (fun a v => ∃ t, v = .int a t) (fun a y => y = .bool (decide (a ≤ 2))) (.inr ⟨_, hm, rfl, _, rfl⟩) hsz.symm (fun i v hi hv => ints_src hI i v hi hv) ?_ ?_
  · rintro k v I oI C oC D m₂ ys h tk E' hk ⟨t, rfl⟩ hC hx₂ F₂ N₂
    clear Fe Ne rest hI hm
    conv => arg 6; dsimp only
    repeat' (first | wrow_close | ((with_reducible show wpAny _ _ (call (.ref 29) _) _ _ _); (rename Fr _ _ _ _ => Fz'); (rename News _ _ _ _ => Nz'); (rename GF _ _ => gz'); (with_unfolding_all refine le_c (s := ⟨_, _, _, _, _⟩) (gz'.keeps Fz'.keep) (dn (by assumption)) (un (by assumption)) (by assumption) ?_); (intro _ _ kz'); (walk_at "own aft")) | walk1 | (dsimp only; walk1) | (leave1; walk_say "STEP leave1"; try dsimp only at *) | fail "no step")
    rename Fr _ _ _ _ => Fe
    rename News _ _ _ _ => Ne
    exact ⟨_, _, rfl, Fe, Ne, rfl⟩
  · intro ys hys D h tk F₃ N₃ o₃
    have hys := bools_paired (f := fun a => decide (a ≤ 2)) hys
    subst hys
    exact rest _ _ _ _ F₃ N₃ o₃
local macro_rules | `(tactic| walk_at "subscriptTail") => `(tactic| ((with_reducible show wpAny _ _ (subscriptTail (PySem.Expr.Name _ _) _ (Value.ref _) (Value.int _ _)) _ _ _); (rename News _ _ _ _ => N'); (with_unfolding_all refine item_led (News.get N' (by walk_at "own mem")) (by omega) (by omega) (by assumption) ?_)))
set_option maxHeartbeats 4000000 in
theorem law_btest {w : World} {s s₀ : Shared} {A : Around} {Q : Flow → Shared → Prop} {h₀ : Heap} {L fa : Addr} {cd : Value} {mg mb m : PySem.Str → Option Value} {As Nr : Addr} {vsA : Array Value} {cA cN : Nat} {bs : List Bool} {pr : Int} {tp : Tok} {news0 : List (Addr × Obj)} (T : Top qv (looseW qv looseX) (ExcName.means s₀.heap) mg mb h₀) (GL : GLt mg mb h₀) (KX : (kF w.params).In h₀) (g : GF w h₀)
    (F : Fr h₀ L s.heap m) (N : News h₀ L s.heap news0) (hA : A.depth ≤ 370) (hU : A.units ≤ 60) (hh : A.handled = none) (hz : bs.length ≤ 1000) (hc : bs.count true = 1) (hT : true ∈ bs) (hi40 : bs.idxOf true ≤ 40) (hI : vsA[((bs.idxOf true : Nat) : Int).toNat]? = some (.int pr tp)) (hmA : (As, lstO vsA cA) ∈ news0) (hmN : (Nr, boolsO bs cN) ∈ news0) (ma : m (PySem.Str.ofString "asked") = some (.ref As)) (mn : m (PySem.Str.ofString "near") = some (.ref Nr))
    (rest : ∀ h tk, Fr h₀ L h m → News h₀ L h news0 → Q .next { s with heap := h, toks := tk }) :
    wpAny (model pw w) (A.deeper (envOfC (PySem.Str.ofString "law") (fdS 32) L fa cd)) (exec ((stElse ((stBody ((fdB 32).getD 11 dStmt)).getD 0 dStmt)).getD 2 dStmt) (envOfC (PySem.Str.ofString "law") (fdS 32) L fa cd)) Q (fun _ _ => False) s := by
  conv => pattern List.getD (stElse ((stBody ((fdB 32).getD 11 dStmt)).getD 0 dStmt)) _ _; whnf
  conv => pattern (occs := *) fdS 32; all_goals whnf
  w_on
  repeat' (first | wrow_close | ((with_reducible show wpAny _ _ (call (.ref 85) _) _ _ _); (rename Fr _ _ _ _ => Fz'); (rename News _ _ _ _ => Nz'); (rename GF _ _ => gz'); (with_unfolding_all refine index_c (s := ⟨_, _, _, _, _⟩) (gz'.keeps Fz'.keep) (dn (by assumption)) (un (by assumption)) (by assumption) (News.get Nz' (by walk_at "own mem")) (by assumption) (by assumption) ?_); (intro _ _ _ kz'); (walk_at "own aft")) | ((with_reducible show wpAny _ _ (call (.ref 71) _) _ _ _); (rename Fr _ _ _ _ => Fz'); (rename News _ _ _ _ => Nz'); (rename GF _ _ => gz'); (with_unfolding_all refine count_c (s := ⟨_, _, _, _, _⟩) (gz'.keeps Fz'.keep) (dn (by assumption)) (un (by assumption)) (by assumption) (News.get Nz' (by walk_at "own mem")) (by assumption) ?_); (intro _ _ _ kz'); (walk_at "own aft")) | ((with_reducible show wpAny _ _ (call (.ref 29) _) _ _ _); (rename Fr _ _ _ _ => Fz'); (rename News _ _ _ _ => Nz'); (rename GF _ _ => gz'); (with_unfolding_all refine le_c (s := ⟨_, _, _, _, _⟩) (gz'.keeps Fz'.keep) (dn (by assumption)) (un (by assumption)) (by assumption) ?_); (intro _ _ kz'); (walk_at "own aft")) | walk1 | (dsimp only; walk1) | (leave1; walk_say "STEP leave1"; try dsimp only at *) | fail "no step")
  · rename _ ≠ (1 : Int) => hbad
    exact absurd (by rw [hc]; rfl) hbad
  · rename Fr _ _ _ _ => Fe
    rename News _ _ _ _ => Ne
    exact rest _ _ Fe Ne
set_option maxHeartbeats 4000000 in
theorem law_bfound {w : World} {s s₀ : Shared} {A : Around} {Q : Flow → Shared → Prop} {h₀ : Heap} {L fa : Addr} {cd : Value} {mg mb m : PySem.Str → Option Value} {Nr : Addr} {cN : Nat} {bs : List Bool} {fnd : Int} {tf : Tok} {news0 : List (Addr × Obj)} (T : Top qv (looseW qv looseX) (ExcName.means s₀.heap) mg mb h₀) (GL : GLt mg mb h₀) (KX : (kF w.params).In h₀) (g : GF w h₀)
    (F : Fr h₀ L s.heap m) (N : News h₀ L s.heap news0) (hA : A.depth ≤ 370) (hU : A.units ≤ 60) (hh : A.handled = none) (hz : bs.length ≤ 1000) (hT : true ∈ bs) (hi40 : bs.idxOf true ≤ 40) (hmN : (Nr, boolsO bs cN) ∈ news0) (mn : m (PySem.Str.ofString "near") = some (.ref Nr)) (mf : m (PySem.Str.ofString "found") = some (.int fnd tf))
    (rest : ∀ h tk t', Fr h₀ L h (fun z => if z = (PySem.Str.ofString "found") then some (.int (Builtin.bitOr fnd (1 * 2 ^ ((bs.idxOf true : Nat) : Int).toNat)) t') else m z) → News h₀ L h news0 → Q .next { s with heap := h, toks := tk }) :
    wpAny (model pw w) (A.deeper (envOfC (PySem.Str.ofString "law") (fdS 32) L fa cd)) (exec ((stElse ((stBody ((fdB 32).getD 11 dStmt)).getD 0 dStmt)).getD 3 dStmt) (envOfC (PySem.Str.ofString "law") (fdS 32) L fa cd)) Q (fun _ _ => False) s := by
  conv => pattern List.getD (stElse ((stBody ((fdB 32).getD 11 dStmt)).getD 0 dStmt)) _ _; whnf
  conv => pattern (occs := *) fdS 32; all_goals whnf
  w_on
  repeat' (first | wrow_close | ((with_reducible show wpAny _ _ (call (.ref 43) _) _ _ _); (rename Fr _ _ _ _ => Fz'); (rename News _ _ _ _ => Nz'); (rename GF _ _ => gz'); (with_unfolding_all refine lshift_c (s := ⟨_, _, _, _, _⟩) (gz'.keeps Fz'.keep) (dn (by assumption)) (un (by assumption)) (by assumption) (by omega) (by omega) (by decide) (by decide) ?_); (intro _ _ _ kz'); (walk_at "own aft")) | ((with_reducible show wpAny _ _ (call (.ref 57) _) _ _ _); (rename Fr _ _ _ _ => Fz'); (rename News _ _ _ _ => Nz'); (rename GF _ _ => gz'); (with_unfolding_all refine or_c (s := ⟨_, _, _, _, _⟩) (gz'.keeps Fz'.keep) (dn (by assumption)) (un (by assumption)) (by assumption) ?_); (intro _ _ _ kz'); (walk_at "own aft")) | ((with_reducible show wpAny _ _ (call (.ref 85) _) _ _ _); (rename Fr _ _ _ _ => Fz'); (rename News _ _ _ _ => Nz'); (rename GF _ _ => gz'); (with_unfolding_all refine index_c (s := ⟨_, _, _, _, _⟩) (gz'.keeps Fz'.keep) (dn (by assumption)) (un (by assumption)) (by assumption) (News.get Nz' (by walk_at "own mem")) (by assumption) (by assumption) ?_); (intro _ _ _ kz'); (walk_at "own aft")) | ((with_reducible show wpAny _ _ (call (.ref 71) _) _ _ _); (rename Fr _ _ _ _ => Fz'); (rename News _ _ _ _ => Nz'); (rename GF _ _ => gz'); (with_unfolding_all refine count_c (s := ⟨_, _, _, _, _⟩) (gz'.keeps Fz'.keep) (dn (by assumption)) (un (by assumption)) (by assumption) (News.get Nz' (by walk_at "own mem")) (by assumption) ?_); (intro _ _ _ kz'); (walk_at "own aft")) | ((with_reducible show wpAny _ _ (call (.ref 29) _) _ _ _); (rename Fr _ _ _ _ => Fz'); (rename News _ _ _ _ => Nz'); (rename GF _ _ => gz'); (with_unfolding_all refine le_c (s := ⟨_, _, _, _, _⟩) (gz'.keeps Fz'.keep) (dn (by assumption)) (un (by assumption)) (by assumption) ?_); (intro _ _ kz'); (walk_at "own aft")) | walk1 | (dsimp only; walk1) | (leave1; walk_say "STEP leave1"; try dsimp only at *) | fail "no step")
  rename Fr _ _ _ _ => Fe
  rename News _ _ _ _ => Ne
  exact rest _ _ _ Fe Ne
set_option maxHeartbeats 4000000 in
theorem law_bpaid {w : World} {s s₀ : Shared} {A : Around} {Q : Flow → Shared → Prop} {h₀ : Heap} {L fa : Addr} {cd : Value} {mg mb m : PySem.Str → Option Value} {As Nr : Addr} {vsA : Array Value} {cA cN : Nat} {bs : List Bool} {pr : Int} {tp : Tok} {Pd : Addr} {vsD : Array Value} {cD : Nat} {news0 : List (Addr × Obj)} (T : Top qv (looseW qv looseX) (ExcName.means s₀.heap) mg mb h₀) (GL : GLt mg mb h₀) (KX : (kF w.params).In h₀) (g : GF w h₀)
    (F : Fr h₀ L s.heap m) (N : News h₀ L s.heap ((Pd, lstO vsD cD) :: news0)) (hA : A.depth ≤ 370) (hU : A.units ≤ 60) (hh : A.handled = none) (hz : bs.length ≤ 1000) (hT : true ∈ bs) (hi40 : bs.idxOf true ≤ 40) (hI : vsA[((bs.idxOf true : Nat) : Int).toNat]? = some (.int pr tp)) (hD : vsD.size ≤ sizeLine) (hPd : ∀ p ∈ news0, p.1 ≠ Pd) (hmA : (As, lstO vsA cA) ∈ news0) (hmN : (Nr, boolsO bs cN) ∈ news0) (ma : m (PySem.Str.ofString "asked") = some (.ref As)) (mn : m (PySem.Str.ofString "near") = some (.ref Nr)) (md : m (PySem.Str.ofString "paid") = some (.ref Pd))
    (rest : ∀ h tk, Fr h₀ L h m → News h₀ L h ((Pd, lstO (vsD.push (.int pr tp)) (cD + 1)) :: news0) → Q .next { s with heap := h, toks := tk }) :
    wpAny (model pw w) (A.deeper (envOfC (PySem.Str.ofString "law") (fdS 32) L fa cd)) (exec ((stElse ((stBody ((fdB 32).getD 11 dStmt)).getD 0 dStmt)).getD 4 dStmt) (envOfC (PySem.Str.ofString "law") (fdS 32) L fa cd)) Q (fun _ _ => False) s := by
  conv => pattern List.getD (stElse ((stBody ((fdB 32).getD 11 dStmt)).getD 0 dStmt)) _ _; whnf
  conv => pattern (occs := *) fdS 32; all_goals whnf
  w_on
  repeat' (first | wrow_close | ((with_reducible show wpAny _ _ (call (Value.builtin "list.append") _) _ _ _); first | with_reducible (((rename Fr _ _ _ _ => Fz'); (rename News _ _ _ _ => Nz'); (with_unfolding_all refine append_1st Fz' Nz' ?ha (by assumption) ?_); (case ha => assumption); (clear Fz' Nz'); intro _ _ _)) | (((rename Fr _ _ _ _ => Fz'); (rename News _ _ _ _ => Nz'); (with_unfolding_all refine append_1st Fz' Nz' ?ha (by assumption) ?_); (case ha => assumption); (clear Fz' Nz'); intro _ _ _))) | ((with_reducible show wpAny _ _ (call (.ref 43) _) _ _ _); (rename Fr _ _ _ _ => Fz'); (rename News _ _ _ _ => Nz'); (rename GF _ _ => gz'); (with_unfolding_all refine lshift_c (s := ⟨_, _, _, _, _⟩) (gz'.keeps Fz'.keep) (dn (by assumption)) (un (by assumption)) (by assumption) (by omega) (by omega) (by decide) (by decide) ?_); (intro _ _ _ kz'); (walk_at "own aft")) | ((with_reducible show wpAny _ _ (call (.ref 57) _) _ _ _); (rename Fr _ _ _ _ => Fz'); (rename News _ _ _ _ => Nz'); (rename GF _ _ => gz'); (with_unfolding_all refine or_c (s := ⟨_, _, _, _, _⟩) (gz'.keeps Fz'.keep) (dn (by assumption)) (un (by assumption)) (by assumption) ?_); (intro _ _ _ kz'); (walk_at "own aft")) | ((with_reducible show wpAny _ _ (call (.ref 85) _) _ _ _); (rename Fr _ _ _ _ => Fz'); (rename News _ _ _ _ => Nz'); (rename GF _ _ => gz'); (with_unfolding_all refine index_c (s := ⟨_, _, _, _, _⟩) (gz'.keeps Fz'.keep) (dn (by assumption)) (un (by assumption)) (by assumption) (News.get Nz' (by walk_at "own mem")) (by assumption) (by assumption) ?_); (intro _ _ _ kz'); (walk_at "own aft")) | ((with_reducible show wpAny _ _ (call (.ref 71) _) _ _ _); (rename Fr _ _ _ _ => Fz'); (rename News _ _ _ _ => Nz'); (rename GF _ _ => gz'); (with_unfolding_all refine count_c (s := ⟨_, _, _, _, _⟩) (gz'.keeps Fz'.keep) (dn (by assumption)) (un (by assumption)) (by assumption) (News.get Nz' (by walk_at "own mem")) (by assumption) ?_); (intro _ _ _ kz'); (walk_at "own aft")) | ((with_reducible show wpAny _ _ (call (.ref 29) _) _ _ _); (rename Fr _ _ _ _ => Fz'); (rename News _ _ _ _ => Nz'); (rename GF _ _ => gz'); (with_unfolding_all refine le_c (s := ⟨_, _, _, _, _⟩) (gz'.keeps Fz'.keep) (dn (by assumption)) (un (by assumption)) (by assumption) ?_); (intro _ _ kz'); (walk_at "own aft")) | walk1 | (dsimp only; walk1) | (leave1; walk_say "STEP leave1"; try dsimp only at *) | fail "no step")
  rename Fr _ _ _ _ => Fe
  rename News _ _ _ _ => Ne
  exact rest _ _ Fe Ne
end
-- PWd
section
inductive Wd where
  | num (neg : Bool) (d k : Nat)
  | nam (i sl : Nat)
noncomputable def Wd.str : Wd → PySem.Str
  | .num false d k => sL (figL d k)
  | .num true d k => sL (45 :: figL d k)
  | .nam i sl => sL (slip (nm i) sl)
noncomputable def Wd.val : Wd → Int
  | .num false d k => (d : Int) * 2 ^ (4 * k)
  | .num true d k => -((d : Int) * 2 ^ (4 * k))
  | .nam i _ => 2 ^ i
noncomputable def Wd.price : Wd → Int
  | .num _ _ _ => -1
  | .nam _ sl => if sl % 4 = 0 then 0 else 2
noncomputable def Wd.paid : Wd → List Int
  | .num _ _ _ => []
  | .nam _ sl => [if sl % 4 = 0 then 0 else 2]
noncomputable def Wd.ok : Wd → Prop
  | .num _ d k => d < 10 ∧ k ≤ 8
  | .nam i _ => i < 10
theorem slip_len {i sl : Nat} (h : i < 10) : 5 ≤ (slip (nm i) sl).length ∧ (slip (nm i) sl).length ≤ 25 := by
  have hl := (nm_chars i h)
  rcases slip_form (nm i) sl (nm_pos h) with ⟨h0, e⟩ | ⟨h0, ⟨p, y, q, e1, e2⟩ | ⟨p, y, q, _, _, e1, e2⟩ | ⟨p, x, y, q, hx, hxy, e1, e2⟩⟩
  · rw [e]; (first | lia | omega)
  · have := congrArg List.length e1
    rw [e2]; simp at this ⊢; (first | lia | omega)
  · have := congrArg List.length e1
    rw [e2]; simp at this ⊢; (first | lia | omega)
  · have := congrArg List.length e1
    rw [e2]; simp at this ⊢; (first | lia | omega)
theorem slip_chars {i sl : Nat} (h : i < 10) : ∀ c ∈ slip (nm i) sl, c = 95 ∨ 97 ≤ c ∧ c ≤ 122 := by
  have hl := (nm_chars i h).2.2
  rcases slip_form (nm i) sl (nm_pos h) with ⟨h0, e⟩ | ⟨h0, ⟨p, y, q, e1, e2⟩ | ⟨p, y, q, hy1, hy2, e1, e2⟩ | ⟨p, x, y, q, hx, hxy, e1, e2⟩⟩
  · rw [e]; exact hl
  · rw [e2]; intro c hc; exact hl c (by rw [e1]; simp at hc ⊢; rcases hc with hc | hc <;> simp [hc])
  · rw [e2]; intro c hc; simp at hc
    rcases hc with hc | hc | hc
    · exact hl c (by rw [e1]; simp [hc])
    · subst hc; exact .inr ⟨hy1, hy2⟩
    · exact hl c (by rw [e1]; simp [hc])
  · rw [e2]; intro c hc; simp at hc
    rcases hc with hc | hc | hc
    · exact hl c (by rw [e1]; simp [hc])
    · subst hc; exact hx
    · exact hl c (by rw [e1]; simp [hc])
theorem head_item (l : List Nat) (h : 0 < l.length) : Txt.item (sL l) 0 = sL [l.getD 0 0] := by
  have := item_sL l 0 h
  rw [show ((0 : Nat) : Int) = 0 from rfl] at this
  exact this
theorem zeroc_is : PySem.Str.ofString "0" = sL [48] := by kernel_rfl
theorem sL1_ne {c d : Nat} (h : c ≠ d) : (sL [c] == sL [d]) = false := by
  apply beq_false_of_ne
  intro q
  exact h (by have := sL_inj q; simpa using this)
theorem nam_h {i sl : Nat} (h : i < 10) : (Txt.item (sL (slip (nm i) sl)) 0 == PySem.Str.ofString "0") = false ∧ (Txt.item (sL (slip (nm i) sl)) 0 == PySem.Str.ofString "-") = false := by
  have hl := (slip_len (sl := sl) h).1
  have hm : (slip (nm i) sl).getD 0 0 ∈ slip (nm i) sl := by
    rw [List.getD, List.getElem?_eq_getElem (by (first | lia | omega))]; exact List.getElem_mem _
  have hc := slip_chars h _ hm
  rw [head_item _ (by (first | lia | omega)), zeroc_is, dash_is]
  exact ⟨sL1_ne (by (first | lia | omega)), sL1_ne (by (first | lia | omega))⟩
theorem num_h (neg : Bool) (d k : Nat) : (Txt.item (Wd.str (.num neg d k)) 0 == PySem.Str.ofString "0") = (!neg) ∧ (Txt.item (Wd.str (.num neg d k)) 0 == PySem.Str.ofString "-") = neg := by
  cases neg
  · show (Txt.item (sL (figL d k)) 0 == _) = _ ∧ _
    refine ⟨?_, fig_0 rfl⟩
    rw [head_item _ (by simp [figL]), zeroc_is]; rfl
  · show (Txt.item (sL (45 :: figL d k)) 0 == _) = _ ∧ _
    refine ⟨?_, negf_0 rfl⟩
    rw [head_item _ (by simp), zeroc_is]; rfl
theorem wd_len {w : Wd} (h : w.ok) : 1 ≤ w.str.length ∧ w.str.length ≤ 25 := by
  cases w with
  | num neg d k =>
    obtain ⟨_, hk⟩ := h
    cases neg
    · have e : (Wd.str (.num false d k)).length = k + 3 := fig_len (d := d) (k := k) rfl
      (first | lia | omega)
    · have e : (Wd.str (.num true d k)).length = k + 4 := negf_len (d := d) (k := k) rfl
      (first | lia | omega)
  | nam i sl =>
    have := slip_len (sl := sl) h
    have e : (Wd.str (.nam i sl)).length = (slip (nm i) sl).length := sL_len _
    (first | lia | omega)
noncomputable def nearB (i sl : Nat) : List Bool := ((List.range 10).map fun k => levS (slip (nm i) sl) (nm k)).map fun a => decide (a ≤ 2)
theorem near_is {i sl : Nat} (h : i < 10) : nearB i sl = (List.range 10).map fun k => decide (k = i) := by
  unfold nearB
  rw [List.map_map]
  apply List.map_congr_left
  intro k hk
  have hk := List.mem_range.mp hk
  show decide (levS (slip (nm i) sl) (nm k) ≤ 2) = decide (k = i)
  by_cases e : k = i
  · subst e
    rw [decide_eq_true rfl, nm_near h]
    apply decide_eq_true
    split <;> decide
  · rw [decide_eq_false e]
    exact decide_eq_false (nm_far h hk (fun q => e q.symm))
theorem near_facts {i sl : Nat} (h : i < 10) : (nearB i sl).count true = 1 ∧ (nearB i sl).idxOf true = i ∧ true ∈ nearB i sl ∧ (nearB i sl).length = 10 := by
  rw [near_is h]
  have key : ∀ j, j < 10 → (((List.range 10).map fun k => decide (k = j)).count true = 1 ∧ ((List.range 10).map fun k => decide (k = j)).idxOf true = j ∧ true ∈ ((List.range 10).map fun k => decide (k = j)) ∧ ((List.range 10).map fun k => decide (k = j)).length = 10) := by decide
  exact key i h
end
-- WL12
section
theorem led_front5 {h₀ h : Heap} {L : Addr} {a b c d e : Addr × Obj} {r : List (Addr × Obj)} (N : News h₀ L h (a :: b :: c :: d :: e :: r)) : News h₀ L h (e :: a :: b :: c :: d :: r) := fun p hp => N p (by
  simp only [List.mem_cons] at hp ⊢
  rcases hp with q | q | q | q | q | q <;> simp [q])
set_option maxHeartbeats 4000000 in
theorem law_word {w : World} {s s₀ : Shared} {A : Around} {Q : Flow → Shared → Prop} {h₀ : Heap} {L fa : Addr} {cd : Value} {mg mb m : PySem.Str → Option Value} {I Pd Sh : Addr} {oI oc : Obj} {led0 : List (Addr × Obj)} {vsD vsS : Array Value} {cD cS : Nat} {wd : Wd} {pl : List Int} {fnd : Int} {tx tf : Tok} (T : Top qv (looseW qv looseX) (ExcName.means s₀.heap) mg mb h₀) (GL : GLt mg mb h₀) (KX : (kF w.params).In h₀) (g : GF w h₀)
    (F : Fr h₀ L s.heap m) (N : News h₀ L s.heap ((I, oI) :: (L + 1, oc) :: (Pd, lstO vsD cD) :: led0)) (hA : A.depth ≤ 370) (hU : A.units ≤ 60) (hh : A.handled = none) (hw : wd.ok) (hoc : oc.data = .cell (some (.str wd.str tx))) (hD : IntsAre vsD.toList pl) (hD2 : pl.length ≤ 20) (hIP : (@Ne Nat I Pd)) (hcP : (@Ne Nat (L + 1) Pd)) (hlP : ∀ p ∈ led0, p.1 ≠ Pd) (hS : StrsAre vsS.toList ((List.range 10).map fun k => sL (nm k))) (hm : (Sh, lstO vsS cS) ∈ led0) (ms : m (PySem.Str.ofString "shelf") = some (.ref Sh)) (md : m (PySem.Str.ofString "paid") = some (.ref Pd)) (mf : m (PySem.Str.ofString "found") = some (.int fnd tf))
    (rest : ∀ h tk M vsD' cD' all, Fr h₀ L h M → News h₀ L h all → (I, oI) ∈ all → (L + 1, oc) ∈ all → (Pd, lstO vsD' cD') ∈ all → (∀ p ∈ led0, p ∈ all) → IntsAre vsD'.toList (pl ++ wd.paid) → (∃ tt, M (PySem.Str.ofString "found") = some (.int (Builtin.bitOr fnd wd.val) tt)) → (∀ q, q ≠ (PySem.Str.ofString "found") → q ≠ (PySem.Str.ofString "asked") → q ≠ (PySem.Str.ofString "near") → M q = m q) → Q .next { s with heap := h, toks := tk }) :
    wpAny (model pw w) (A.deeper (envOfC (PySem.Str.ofString "law") (fdS 32) L fa cd)) (execs (stBody ((fdB 32).getD 11 dStmt)) (envOfC (PySem.Str.ofString "law") (fdS 32) L fa cd)) Q (fun _ _ => False) s := by
  conv => pattern (stBody ((fdB 32).getD 11 dStmt)); whnf
  conv => pattern (occs := *) fdS 32; all_goals whnf
  refine wpAny_execs_cons ?_
  cases wd with
  | num neg d k =>
    obtain ⟨h0, h1⟩ := num_h neg d k
    have hlen := wd_len hw
    refine If_by (st := (stBody ((fdB 32).getD 11 dStmt)).getD 0 dStmt) rfl (law_wt (L := L) (fa := fa) (cd := cd) T GL KX g F N hA hU hh hoc hlen.1 (by (first | lia | omega)) h0 h1) (fun hb tk => ?_) (fun hb tk => ?_)
    · obtain ⟨hd, hk⟩ := hw
      cases neg
      · refine wpAny_execs_cons ?_
        refine law_wnum_p (s := ⟨_, _, _, _, _⟩) (L := L) (fa := fa) (cd := cd) (d := d) (k := k) T GL KX g F N hA hU hh hoc rfl hd hk mf ?_
        rintro h tk t' F₂ N₂
        refine wpAny_execs_nil (wpAny_execs_nil ?_)
        exact rest _ _ _ _ _ _ F₂ N₂ (.head _) (.tail _ (.head _)) (.tail _ (.tail _ (.head _))) (fun p hp => .tail _ (.tail _ (.tail _ hp))) (by rw [Wd.paid, List.append_nil]; exact hD) ⟨_, rfl⟩ (fun q h1 h2 h3 => if_neg h1)
      · refine wpAny_execs_cons ?_
        refine law_wnum_n (s := ⟨_, _, _, _, _⟩) (L := L) (fa := fa) (cd := cd) (d := d) (k := k) T GL KX g F N hA hU hh hoc rfl hd hk mf ?_
        rintro h tk t' F₂ N₂
        refine wpAny_execs_nil (wpAny_execs_nil ?_)
        exact rest _ _ _ _ _ _ F₂ N₂ (.head _) (.tail _ (.head _)) (.tail _ (.tail _ (.head _))) (fun p hp => .tail _ (.tail _ (.tail _ hp))) (by rw [Wd.paid, List.append_nil]; exact hD) ⟨_, rfl⟩ (fun q h1 h2 h3 => if_neg h1)
    · cases neg <;> cases hb
  | nam i sl =>
    have hw : i < 10 := hw
    obtain ⟨h0, h1⟩ := nam_h (sl := sl) hw
    have hsl := slip_len (sl := sl) hw
    have hxl : (Wd.str (.nam i sl)).length = (slip (nm i) sl).length := sL_len _
    obtain ⟨hcnt, hidx, hmem, hlen⟩ := near_facts (sl := sl) hw
    refine If_by (st := (stBody ((fdB 32).getD 11 dStmt)).getD 0 dStmt) rfl (law_wt (L := L) (fa := fa) (cd := cd) T GL KX g F N hA hU hh hoc (by (first | lia | omega)) (by (first | lia | omega)) h0 h1) (fun hb tk => ?_) (fun hb tk => ?_)
    · cases hb
    · refine wpAny_execs_cons ?_
      refine law_asked (s := ⟨_, _, _, _, _⟩) (L := L) (fa := fa) (cd := cd) (news0 := (Pd, lstO vsD cD) :: led0) T GL KX g F N hA hU hh hoc hsl.2 hS (.tail _ hm) ms ?_
      rintro h tk As ysA F₂ N₂ hIA oA
      refine wpAny_execs_cons ?_
      refine law_near (s := ⟨_, _, _, _, _⟩) (L := L) (fa := fa) (cd := cd) T GL KX g F₂ N₂ hA hU hh hIA (by simp) (.head _) rfl ?_
      rintro h tk Nr nN F₃ N₃ oN
      have hprice : ((List.range 10).map fun k => levS (slip (nm i) sl) (nm k))[i]? = some (if sl % 4 = 0 then 0 else 2) := by
        rw [List.getElem?_map, List.getElem?_range hw, Option.map_some, nm_near hw]
      obtain ⟨tpr, hget⟩ := ints_at hIA hprice
      have hget : ysA[(((nearB i sl).idxOf true : Nat) : Int).toNat]? = some (.int (if sl % 4 = 0 then 0 else 2) tpr) := by
        rw [hidx, Int.toNat_natCast, ← Array.getElem?_toList]; exact hget
      refine wpAny_execs_cons ?_
      refine law_btest (s := ⟨_, _, _, _, _⟩) (L := L) (fa := fa) (cd := cd) (bs := nearB i sl) (vsA := ysA) T GL KX g F₃ N₃ hA hU hh (by rw [hlen]; decide) hcnt hmem (by rw [hidx]; (first | lia | omega)) hget (.tail _ (.head _)) (.head _) rfl rfl ?_
      rintro h tk F₄ N₄
      refine wpAny_execs_cons ?_
      refine law_bfound (s := ⟨_, _, _, _, _⟩) (L := L) (fa := fa) (cd := cd) (bs := nearB i sl) T GL KX g F₄ N₄ hA hU hh (by rw [hlen]; decide) hmem (by rw [hidx]; (first | lia | omega)) (.head _) rfl mf ?_
      rintro h tk t' F₅ N₅
      have hAP : (@Ne Nat As Pd) := fun e => (off1_mem oA _ (.tail _ (.tail _ (.head _)))) e.symm
      have hNP : (@Ne Nat Nr Pd) := fun e => (off1_mem oN _ (.tail _ (.tail _ (.tail _ (.head _))))) e.symm
      have N₆ := led_front5 N₅
      refine wpAny_execs_cons ?_
      refine law_bpaid (s := ⟨_, _, _, _, _⟩) (L := L) (fa := fa) (cd := cd) (bs := nearB i sl) (vsA := ysA) T GL KX g F₅ N₆ hA hU hh (by rw [hlen]; decide) hmem (by rw [hidx]; (first | lia | omega)) hget (Nat.le_trans (by have := ints_len hD; simp at this; (first | lia | omega) : vsD.size ≤ 20) (by decide)) (fun p hp => ?_) (.tail _ (.head _)) (.head _) rfl rfl md ?_
      · rcases List.mem_cons.mp hp with rfl | hp
        · exact hNP
        · rcases List.mem_cons.mp hp with rfl | hp
          · exact hAP
          · rcases List.mem_cons.mp hp with rfl | hp
            · exact hIP
            · rcases List.mem_cons.mp hp with rfl | hp
              · exact hcP
              · exact hlP p hp
      rintro h tk F₇ N₇
      refine wpAny_execs_nil (wpAny_execs_nil ?_)
      refine rest _ _ _ _ _ _ F₇ N₇ (.tail _ (.tail _ (.tail _ (.head _)))) (.tail _ (.tail _ (.tail _ (.tail _ (.head _))))) (.head _) (fun p hp => .tail _ (.tail _ (.tail _ (.tail _ (.tail _ hp))))) ?_ ⟨t', ?_⟩ (fun q h1 h2 h3 => ?_)
      · rw [Array.toList_push, Wd.paid]
        exact ints_app hD (.cons _ _ .nil)
      · rw [hidx, Int.toNat_natCast, Int.one_mul]; rfl
      · simp only [if_neg h1, if_neg h2, if_neg h3]
end
-- WLj
section
noncomputable def foundW (ws : List Wd) : Int := ws.foldl (fun f w => Builtin.bitOr f w.val) 0
theorem found_snoc (ws : List Wd) (w : Wd) : foundW (ws ++ [w]) = Builtin.bitOr (foundW ws) w.val := by unfold foundW; rw [List.foldl_append]; rfl
theorem paid_len : ∀ ws : List Wd, (ws.flatMap Wd.paid).length ≤ ws.length
  | [] => by simp
  | w :: r => by
    have := paid_len r
    have h1 : w.paid.length ≤ 1 := by cases w <;> simp [Wd.paid]
    simp only [List.flatMap_cons, List.length_append, List.length_cons]
    (first | lia | omega)
theorem take_snoc {α : Type} {l : List α} {i : Nat} {a : α} (h : l[i]? = some a) : l.take (i + 1) = l.take i ++ [a] := by rw [List.take_add_one, h]; rfl
theorem word_at {vs : Array Value} {ws : List Wd} (h : StrsAre vs.toList (ws.map Wd.str)) {i : Nat} {v : Value} (hv : vs[i]? = some v) : ∃ w t, ws[i]? = some w ∧ v = .str w.str t := by
  have hi : i < vs.size := by
    rcases Nat.lt_or_ge i vs.size with q | q
    · exact q
    · rw [Array.getElem?_eq_none q] at hv; cases hv
  obtain ⟨x, hx, t, rfl⟩ := strs_src h i v hi hv
  rw [List.getElem?_map] at hx
  cases e : ws[i]? with
  | none => rw [e] at hx; cases hx
  | some w => rw [e] at hx; exact ⟨w, t, rfl, by rw [← Option.some.inj hx]⟩
end
-- WL13
section
set_option maxHeartbeats 4000000 in
theorem law_words {w : World} {s s₀ : Shared} {A : Around} {Q : Flow → Shared → Prop} {h₀ : Heap} {L fa : Addr} {cd : Value} {mg mb m : PySem.Str → Option Value} {Pd Sh H : Addr} {oc : Obj} {vv : Option Value} {led0 : List (Addr × Obj)} {vsS vsH : Array Value} {cD cS cH : Nat} {ws : List Wd} {tf : Tok} (T : Top qv (looseW qv looseX) (ExcName.means s₀.heap) mg mb h₀) (GL : GLt mg mb h₀) (KX : (kF w.params).In h₀) (g : GF w h₀)
    (F : Fr h₀ L s.heap m) (N : News h₀ L s.heap ((L + 1, oc) :: (Pd, lstO #[] cD) :: led0)) (hA : A.depth ≤ 370) (hU : A.units ≤ 60) (hh : A.handled = none) (hw : ∀ w ∈ ws, w.ok) (hwl : ws.length ≤ 10) (hoc : oc.data = .cell vv) (hcP : (@Ne Nat (L + 1) Pd)) (hlc : ∀ p ∈ led0, p.1 ≠ L + 1) (hlP : ∀ p ∈ led0, p.1 ≠ Pd) (hS : StrsAre vsS.toList ((List.range 10).map fun k => sL (nm k))) (hH : StrsAre vsH.toList (ws.map Wd.str)) (hm : (Sh, lstO vsS cS) ∈ led0) (hmH : (H, lstO vsH cH) ∈ led0) (ms : m (PySem.Str.ofString "shelf") = some (.ref Sh)) (md : m (PySem.Str.ofString "paid") = some (.ref Pd)) (mh : m (PySem.Str.ofString "heard") = some (.ref H)) (mf : m (PySem.Str.ofString "found") = some (.int 0 tf))
    (rest : ∀ h tk M vsD' cD' oc' vv', Fr h₀ L h M → News h₀ L h ((L + 1, oc') :: (Pd, lstO vsD' cD') :: led0) → oc'.data = .cell vv' → IntsAre vsD'.toList (ws.flatMap Wd.paid) → (∃ tt, M (PySem.Str.ofString "found") = some (.int (foundW ws) tt)) → (∀ q, q ≠ (PySem.Str.ofString "found") → q ≠ (PySem.Str.ofString "asked") → q ≠ (PySem.Str.ofString "near") → M q = m q) → Q .next { s with heap := h, toks := tk }) :
    wpAny (model pw w) (A.deeper (envOfC (PySem.Str.ofString "law") (fdS 32) L fa cd)) (exec ((fdB 32).getD 11 dStmt) (envOfC (PySem.Str.ofString "law") (fdS 32) L fa cd)) Q (fun _ _ => False) s := by
  conv => pattern List.getD (fdB 32) _ _; whnf
  conv => pattern (occs := *) fdS 32; all_goals whnf
  have hszH : vsH.size = ws.length := by rw [strs_size hH]; simp
  with_unfolding_all refine For_cell F N hoc (fun p hp => ?_) hh (by rfl) (by rfl) (by rfl) (fun i M news => ∃ (vsD : Array Value) (cD : Nat), news = (Pd, lstO vsD cD) :: led0 ∧ IntsAre vsD.toList ((ws.take i).flatMap Wd.paid) ∧ (∃ tt, M (PySem.Str.ofString "found") = some (.int (foundW (ws.take i)) tt)) ∧ (∀ q, q ≠ (PySem.Str.ofString "found") → q ≠ (PySem.Str.ofString "asked") → q ≠ (PySem.Str.ofString "near") → M q = m q)) ⟨#[], cD, rfl, .nil, ⟨_, mf⟩, fun q _ _ _ => rfl⟩ (l := H) (its := vsH) (kk := cH) (fun i M nw j => ?_) (fun Q' q => nameX_L F mh q) ?_ ?_
  · rcases List.mem_cons.mp hp with rfl | hp
    · exact fun e => hcP e.symm
    · exact hlc p hp
  · obtain ⟨vsD, c', rfl, _⟩ := j
    exact .tail _ hmH
  · rintro i v m₁ nw h tk I o oc' hv ⟨vsD, c', rfl, hD, ⟨tt, mf1⟩, hq⟩ hoff hIc F₁ N₁ hoc'
    obtain ⟨wd, t, hwi, rfl⟩ := word_at hH hv
    have hil : i < ws.length := by
      rcases Nat.lt_or_ge i ws.length with q | q
      · exact q
      · rw [List.getElem?_eq_none q] at hwi; cases hwi
    have ms1 := (hq (PySem.Str.ofString "shelf") (by decide) (by decide) (by decide)).trans ms
    have md1 := (hq (PySem.Str.ofString "paid") (by decide) (by decide) (by decide)).trans md
    have hpl := paid_len (ws.take i)
    rw [List.length_take] at hpl
    refine law_word (s := ⟨_, _, _, _, _⟩) (L := L) (fa := fa) (cd := cd) (wd := wd) (tx := t) T GL KX g F₁ N₁ hA hU hh (hw wd (List.mem_of_getElem? hwi)) hoc' hD (by (first | lia | omega)) (fun e => (hoff _ (.head _)).1 e.symm) hcP hlP hS hm ms1 md1 mf1 ?_
    rintro h tk M vsD2 cD2 all F₂ N₂ hI hc hP hl hD2 ⟨tt2, mf2⟩ hq2
    refine LStep.next F₂ N₂ ((L + 1, oc') :: (Pd, lstO vsD2 cD2) :: led0) (fun p hp => ?_) (fun p hp => ?_) ⟨oc', _, _, rfl, hoc', fun p hp => ?_, vsD2, cD2, rfl, ?_, ⟨tt2, ?_⟩, fun q h1 h2 h3 => (hq2 q h1 h2 h3).trans (hq q h1 h2 h3)⟩
    · rcases List.mem_cons.mp hp with rfl | hp
      · exact hI
      · rcases List.mem_cons.mp hp with rfl | hp
        · exact hc
        · rcases List.mem_cons.mp hp with rfl | hp
          · exact hP
          · exact hl p hp
    · rcases List.mem_cons.mp hp with rfl | hp
      · exact fun e => hIc e.symm
      · rcases List.mem_cons.mp hp with rfl | hp
        · exact (hoff _ (.head _)).1
        · exact (hoff p (.tail _ hp)).1
    · rcases List.mem_cons.mp hp with rfl | hp
      · exact fun e => hcP e.symm
      · exact hlc p hp
    · rw [take_snoc hwi, List.flatMap_append]
      simpa using hD2
    · rw [take_snoc hwi, found_snoc]; exact mf2
  · rintro h tk M oc' vv' nw F₁ N₁ hoc' hnr ⟨vsD, c', rfl, hD, hf, hq⟩
    rw [hszH, List.take_length] at hD hf
    exact rest _ _ _ _ _ _ _ F₁ N₁ hoc' hD hf hq
end
-- WLk
section
theorem eq_intl {prog : Program} {w : World} {A : Around} {E : Value → Shared → Prop} {s : Shared} {a b : Addr} {vs us : Array Value} {n k : Nat} {xs ys : List Int} {Q : Value → Shared → Prop}
    (ha : s.heap.get? a = some (lstO vs n)) (hs : IntsAre vs.toList xs) (hb : s.heap.get? b = some (lstO us k)) (ht : IntsAre us.toList ys) (hu : A.units + 64 < cLine)
    (h : Q (.bool (decide (xs = ys))) s) : wpAny (model prog w) A (compareOp .Eq (.ref a) (.ref b)) Q E s := by
  have h1 : s.heap.IsList a vs.toList.toArray := by rw [Array.toArray_toList]; exact IsL.isList ha
  have h2 : s.heap.IsList b us.toList.toArray := by rw [Array.toArray_toList]; exact IsL.isList hb
  exact eq_intsK h1 hs h2 ht hu h
end
-- WL14
section
local macro_rules | `(tactic| walk_at "compareOp Eq ref ref") => `(tactic| ((rename News _ _ _ _ => N'); (with_unfolding_all refine' eq_intl (News.get N' ?neA) ?neS (News.get N' (.head _)) ?neT (cl_room (Nat.le_trans (by assumption) (by decide))) ?_); (case neA => exact (by walk_at "own mem")); (case neS => assumption); (case neT => assumption)))
set_option maxHeartbeats 4000000 in
theorem law_ret {w : World} {s s₀ : Shared} {A : Around} {Q : Flow → Shared → Prop} {h₀ : Heap} {L fa : Addr} {cd : Value} {mg mb m : PySem.Str → Option Value} {news0 ts : List (Addr × Obj)} {Pd Tn : Addr} {vsD vsT : Array Value} {cD cT : Nat} {W fnd : Int} {tw tf : Tok} {ps : List (PySem.Str × Int)} {pl : List Int} (T : Top qv (looseW qv looseX) (ExcName.means s₀.heap) mg mb h₀) (GL : GLt mg mb h₀) (KX : (kF w.params).In h₀) (g : GF w h₀)
    (F : Fr h₀ L s.heap m) (N : News h₀ L s.heap news0) (hA : A.depth ≤ 370) (hU : A.units ≤ 60) (hh : A.handled = none) (hf : fnd = W) (hD : IntsAre vsD.toList pl) (hP : Paired (PairIn ts) ps vsT.toList) (heq : pl = (ps.filter fun q => decide (0 ≤ q.2)).map (·.2)) (hsz : ps.length ≤ 10) (mD : (Pd, lstO vsD cD) ∈ news0) (mT : (Tn, lstO vsT cT) ∈ news0) (hts : ∀ p ∈ ts, p ∈ news0) (mn : m (PySem.Str.ofString "number") = some (.int W tw)) (mp : m (PySem.Str.ofString "paid") = some (.ref Pd)) (mf : m (PySem.Str.ofString "found") = some (.int fnd tf)) (mt : m (PySem.Str.ofString "turned") = some (.ref Tn))
    (rest : ∀ h tk, Fr h₀ L h m → Q (.ret (.bool true)) { s with heap := h, toks := tk }) :
    wpAny (model pw w) (A.deeper (envOfC (PySem.Str.ofString "law") (fdS 32) L fa cd)) (exec ((fdB 32).getD 12 dStmt) (envOfC (PySem.Str.ofString "law") (fdS 32) L fa cd)) Q (fun _ _ => False) s := by
  conv => pattern List.getD (fdB 32) _ _; whnf
  conv => pattern (occs := *) fdS 32; all_goals whnf
  w_on
  have hszT : vsT.size = ps.length := paired_size hP
  repeat' (first | wrow_close | ((with_reducible show wpAny _ _ (subscriptTail (Expr.Name _ _) (Expr.Constant _ _ _) (Value.ref _) (Value.int _ _)) _ _ _); first | with_reducible (((rename News _ _ _ _ => Nz'); first | ((with_reducible show wpAny _ _ (subscriptTail _ _ (Value.ref _) (Value.int 0 _)) _ _ _); with_unfolding_all refine tup_0 (s := ⟨_, _, _, _, _⟩) (News.get Nz' (by walk_at "own mem")) ?_) | ((with_reducible show wpAny _ _ (subscriptTail _ _ (Value.ref _) (Value.int 1 _)) _ _ _); with_unfolding_all refine tup_1 (s := ⟨_, _, _, _, _⟩) (News.get Nz' (by walk_at "own mem")) ?_))) | (((rename News _ _ _ _ => Nz'); first | ((with_reducible show wpAny _ _ (subscriptTail _ _ (Value.ref _) (Value.int 0 _)) _ _ _); with_unfolding_all refine tup_0 (s := ⟨_, _, _, _, _⟩) (News.get Nz' (by walk_at "own mem")) ?_) | ((with_reducible show wpAny _ _ (subscriptTail _ _ (Value.ref _) (Value.int 1 _)) _ _ _); with_unfolding_all refine tup_1 (s := ⟨_, _, _, _, _⟩) (News.get Nz' (by walk_at "own mem")) ?_)))) | walk1 | (dsimp only; walk1) | (leave1; walk_say "STEP leave1"; try dsimp only at *) | fail "no step")
  · refine Halt.on ?_
    rename Fr _ _ _ _ => Fe
    rename News _ _ _ _ => Ne
    with_unfolding_all refine LCt.ListComp_T Fe (by rfl) (by decide) (by rfl) (by decide) (by rfl) ?_
    repeat' (first | wrow_close | ((with_reducible show wpAny _ _ (subscriptTail (Expr.Name _ _) (Expr.Constant _ _ _) (Value.ref _) (Value.int _ _)) _ _ _); first | with_reducible (((rename News _ _ _ _ => Nz'); first | ((with_reducible show wpAny _ _ (subscriptTail _ _ (Value.ref _) (Value.int 0 _)) _ _ _); with_unfolding_all refine tup_0 (s := ⟨_, _, _, _, _⟩) (News.get Nz' (by walk_at "own mem")) ?_) | ((with_reducible show wpAny _ _ (subscriptTail _ _ (Value.ref _) (Value.int 1 _)) _ _ _); with_unfolding_all refine tup_1 (s := ⟨_, _, _, _, _⟩) (News.get Nz' (by walk_at "own mem")) ?_))) | (((rename News _ _ _ _ => Nz'); first | ((with_reducible show wpAny _ _ (subscriptTail _ _ (Value.ref _) (Value.int 0 _)) _ _ _); with_unfolding_all refine tup_0 (s := ⟨_, _, _, _, _⟩) (News.get Nz' (by walk_at "own mem")) ?_) | ((with_reducible show wpAny _ _ (subscriptTail _ _ (Value.ref _) (Value.int 1 _)) _ _ _); with_unfolding_all refine tup_1 (s := ⟨_, _, _, _, _⟩) (News.get Nz' (by walk_at "own mem")) ?_)))) | walk1 | (dsimp only; walk1) | (leave1; walk_say "STEP leave1"; try dsimp only at *) | fail "no step")
    rename Fr _ _ _ _ => Fe
    rename News _ _ _ _ => Ne
    refine LCt.CompSrcT.ledger hh Fe Ne mT (Nat.le_trans (by (first | lia | omega) : vsT.size ≤ 10) (by decide)) ?_
    intro g'
    refine comp_restT ps (PairIn ts) (fun q => decide (0 ≤ q.2)) (fun q y => ∃ t, y = .int q.2 t) (.inr ⟨_, mT, rfl, _, rfl⟩) hszT.symm (fun i v hi hv => paired_src hP hi hv) ?_ ?_
    · rintro p v I oI C oC D m₂ ys h tk E' hp ⟨b, t1, t2, rfl, hm⟩ hC hx₂ F₂ N₂
      have hm := hts _ hm
      clear Fe Ne rest hD hP mD mT
      conv => arg 6; dsimp only
      repeat' (first | wrow_close | ((with_reducible show wpAny _ _ (subscriptTail (Expr.Name _ _) (Expr.Constant _ _ _) (Value.ref _) (Value.int _ _)) _ _ _); first | with_reducible (((rename News _ _ _ _ => Nz'); first | ((with_reducible show wpAny _ _ (subscriptTail _ _ (Value.ref _) (Value.int 0 _)) _ _ _); with_unfolding_all refine tup_0 (s := ⟨_, _, _, _, _⟩) (News.get Nz' (by walk_at "own mem")) ?_) | ((with_reducible show wpAny _ _ (subscriptTail _ _ (Value.ref _) (Value.int 1 _)) _ _ _); with_unfolding_all refine tup_1 (s := ⟨_, _, _, _, _⟩) (News.get Nz' (by walk_at "own mem")) ?_))) | (((rename News _ _ _ _ => Nz'); first | ((with_reducible show wpAny _ _ (subscriptTail _ _ (Value.ref _) (Value.int 0 _)) _ _ _); with_unfolding_all refine tup_0 (s := ⟨_, _, _, _, _⟩) (News.get Nz' (by walk_at "own mem")) ?_) | ((with_reducible show wpAny _ _ (subscriptTail _ _ (Value.ref _) (Value.int 1 _)) _ _ _); with_unfolding_all refine tup_1 (s := ⟨_, _, _, _, _⟩) (News.get Nz' (by walk_at "own mem")) ?_)))) | walk1 | (dsimp only; walk1) | (leave1; walk_say "STEP leave1"; try dsimp only at *) | fail "no step")
      · exact ⟨⟨_, _, rfl, fun _ _ e => e⟩, _, rfl⟩
      · exact decide_eq_false (by assumption)
      · exact ⟨_, _, rfl, fun _ _ e => e⟩
    · intro ys hys D h tk F₃ N₃ o₃
      have hys : IntsAre ys.toArray.toList ((ps.filter fun q => decide (0 ≤ q.2)).map (·.2)) := ints_paired hys
      clear Fe Ne
      conv => arg 6; dsimp only
      repeat' (first | wrow_close | ((with_reducible show wpAny _ _ (subscriptTail (Expr.Name _ _) (Expr.Constant _ _ _) (Value.ref _) (Value.int _ _)) _ _ _); first | with_reducible (((rename News _ _ _ _ => Nz'); first | ((with_reducible show wpAny _ _ (subscriptTail _ _ (Value.ref _) (Value.int 0 _)) _ _ _); with_unfolding_all refine tup_0 (s := ⟨_, _, _, _, _⟩) (News.get Nz' (by walk_at "own mem")) ?_) | ((with_reducible show wpAny _ _ (subscriptTail _ _ (Value.ref _) (Value.int 1 _)) _ _ _); with_unfolding_all refine tup_1 (s := ⟨_, _, _, _, _⟩) (News.get Nz' (by walk_at "own mem")) ?_))) | (((rename News _ _ _ _ => Nz'); first | ((with_reducible show wpAny _ _ (subscriptTail _ _ (Value.ref _) (Value.int 0 _)) _ _ _); with_unfolding_all refine tup_0 (s := ⟨_, _, _, _, _⟩) (News.get Nz' (by walk_at "own mem")) ?_) | ((with_reducible show wpAny _ _ (subscriptTail _ _ (Value.ref _) (Value.int 1 _)) _ _ _); with_unfolding_all refine tup_1 (s := ⟨_, _, _, _, _⟩) (News.get Nz' (by walk_at "own mem")) ?_)))) | walk1 | (dsimp only; walk1) | (leave1; walk_say "STEP leave1"; try dsimp only at *) | fail "no step")
      rename Fr _ _ _ _ => Fe
      rw [decide_eq_true heq]
      exact rest _ _ Fe
  · rename _ ≠ _ => hbad
    exact absurd hf hbad
end
-- PBit
section
noncomputable def bitv (x : Int) (i : Nat) : Int := x / 2 ^ i % 2
theorem two_pos (i : Nat) : (0 : Int) < 2 ^ i := Int.pow_pos (by decide)
theorem pow_split {i j : Nat} (h : j ≤ i) : (2 : Int) ^ i = 2 ^ j * 2 ^ (i - j) := by rw [← Int.pow_add]; congr 1; (first | lia | omega)
theorem or_bit {x : Int} {i : Nat} (h : bitv x i = 0) : Builtin.bitOr x (2 ^ i) = x + 2 ^ i := by
  unfold bitv at h
  rw [bitOr_and, kbt_bit, h]; (first | lia | omega)
theorem add_mul_div (x q : Int) (j : Nat) : (x + 2 ^ j * q) / 2 ^ j = x / 2 ^ j + q := Int.add_mul_ediv_left x q (Int.ne_of_gt (two_pos j))
theorem bit_top (y T : Int) {i : Nat} (h : i < 32) : bitv (y + T * 4294967296) i = bitv y i := by
  unfold bitv
  have e : T * 4294967296 = 2 ^ i * (2 * (T * 2 ^ (31 - i))) := by
    have h1 : (4294967296 : Int) = 2 ^ i * (2 * 2 ^ (31 - i)) := by
      rw [show (4294967296 : Int) = 2 ^ 32 by rfl, pow_split (show i ≤ 32 by (first | lia | omega)), show 32 - i = (31 - i) + 1 by (first | lia | omega), Int.pow_succ, Int.mul_comm (2 ^ (31 - i)) 2]
    rw [h1, ← Int.mul_assoc, Int.mul_comm T, Int.mul_assoc]
    congr 1
    rw [← Int.mul_assoc, Int.mul_comm T 2, Int.mul_assoc]
  rw [e, add_mul_div]
  (first | lia | omega)
theorem low_form {x : Int} {i : Nat} (h : bitv x i = 0) : ∃ q r, x = 2 ^ (i + 1) * q + r ∧ 0 ≤ r ∧ r < 2 ^ i := by
  unfold bitv at h
  have hp := two_pos i
  have e1 := Int.mul_ediv_add_emod x (2 ^ i)
  have e2 := Int.emod_nonneg x (Int.ne_of_gt hp)
  have e3 := Int.emod_lt_of_pos x hp
  refine ⟨x / 2 ^ i / 2, x % 2 ^ i, ?_, e2, e3⟩
  have e4 : x / 2 ^ i = 2 * (x / 2 ^ i / 2) := by (first | lia | omega)
  rw [Int.pow_succ, Int.mul_assoc, ← e4]
  exact e1.symm
theorem bit_add {x : Int} {i j : Nat} (h : bitv x i = 0) (hj : j ≠ i) : bitv (x + 2 ^ i) j = bitv x j := by
  rcases Nat.lt_or_ge j i with hlt | hge
  · unfold bitv
    have e : (2 : Int) ^ i = 2 ^ j * (2 * 2 ^ (i - j - 1)) := by
      rw [pow_split (show j ≤ i by (first | lia | omega)), ← pow_succ', show i - j - 1 + 1 = i - j by (first | lia | omega)]
    rw [e, add_mul_div]; (first | lia | omega)
  · obtain ⟨q, r, e, h0, h1⟩ := low_form h
    have hp := two_pos (i + 1)
    have h2 : (2 : Int) ^ (i + 1) = 2 * 2 ^ i := pow_succ' i
    have d1 : (x + 2 ^ i) / 2 ^ (i + 1) = q := by
      rw [show x + 2 ^ i = (r + 2 ^ i) + 2 ^ (i + 1) * q by (first | lia | omega), add_mul_div, Int.ediv_eq_zero_of_lt (by (first | lia | omega)) (by (first | lia | omega))]; (first | lia | omega)
    have d2 : x / 2 ^ (i + 1) = q := by
      rw [show x = r + 2 ^ (i + 1) * q by (first | lia | omega), add_mul_div, Int.ediv_eq_zero_of_lt h0 (by (first | lia | omega))]; (first | lia | omega)
    unfold bitv
    rw [pow_split (show i + 1 ≤ j by (first | lia | omega)), ← Int.ediv_ediv_of_nonneg (Int.le_of_lt hp), ← Int.ediv_ediv_of_nonneg (Int.le_of_lt hp), d1, d2]
theorem bit_room {y : Int} {i : Nat} (hi : i < 32) (h : bitv y i = 0) (h0 : 0 ≤ y) (h1 : y < 4294967296) : y + 2 ^ i < 4294967296 := by
  obtain ⟨q, r, e, r0, r1⟩ := low_form h
  have hp := two_pos (i + 1)
  have h2 : (2 : Int) ^ (i + 1) = 2 * 2 ^ i := pow_succ' i
  have h32 : (4294967296 : Int) = 2 ^ (i + 1) * 2 ^ (31 - i) := by
    rw [show (4294967296 : Int) = 2 ^ 32 by rfl, pow_split (show i + 1 ≤ 32 by (first | lia | omega))]; congr 2; (first | lia | omega)
  have hq : q < 2 ^ (31 - i) := by
    rcases Int.lt_or_le q (2 ^ (31 - i)) with c | c
    · exact c
    · have := Int.mul_le_mul_of_nonneg_left c (Int.le_of_lt hp)
      (first | lia | omega)
  have hq2 : q + 1 ≤ 2 ^ (31 - i) := hq
  have := Int.mul_le_mul_of_nonneg_left hq2 (Int.le_of_lt hp)
  rw [Int.mul_add, Int.mul_one] at this
  (first | lia | omega)
theorem and_shift : ∀ (n : Nat) (x T : Int), 0 ≤ x → x < 2 ^ n → Builtin.bitAnd x (T * 2 ^ n) = 0
  | 0, x, T, h0, h1 => by
    have e : x = 0 := by rw [Int.pow_zero] at h1; (first | lia | omega)
    subst e
    rw [bitAnd_comm, bitAnd_zero]
  | n + 1, x, T, h0, h1 => by
    have hp : (2 : Int) ^ (n + 1) = 2 * 2 ^ n := pow_succ' n
    have e1 : T * 2 ^ (n + 1) = 2 * (T * 2 ^ n) := by rw [hp, ← Int.mul_assoc, Int.mul_comm T 2, Int.mul_assoc]
    rw [kbt_halves, e1, show 2 * (T * 2 ^ n) / 2 = T * 2 ^ n by (first | lia | omega), and_shift n (x / 2) T (by (first | lia | omega)) (by (first | lia | omega)), if_neg (by (first | lia | omega))]
    rfl
theorem or_top {y : Int} (T : Int) (h0 : 0 ≤ y) (h1 : y < 4294967296) : Builtin.bitOr y (T * 4294967296) = y + T * 4294967296 := by
  have := and_shift 32 y T h0 (by rw [show (2 : Int) ^ 32 = 4294967296 by rfl]; exact h1)
  rw [show (2 : Int) ^ 32 = 4294967296 by rfl] at this
  rw [bitOr_and, this]; (first | lia | omega)
/-- an item: a bit, or a top -/
noncomputable def itv : Nat ⊕ Int → Int
  | .inl i => 2 ^ i
  | .inr T => T * 4294967296
noncomputable def bitOf : Nat ⊕ Int → Option Nat
  | .inl i => some i
  | .inr _ => none
noncomputable def topOf : Nat ⊕ Int → Option Int
  | .inl _ => none
  | .inr T => some T
noncomputable def bitsOf (l : List (Nat ⊕ Int)) : List Nat := l.filterMap bitOf
noncomputable def topsOf (l : List (Nat ⊕ Int)) : List Int := l.filterMap topOf
noncomputable def sumI (l : List (Nat ⊕ Int)) : Int := l.foldr (fun a s => itv a + s) 0
theorem fold_or : ∀ (l : List (Nat ⊕ Int)) (y T : Int), 0 ≤ y → y < 4294967296 → (bitsOf l).Nodup → (∀ i ∈ bitsOf l, i < 32 ∧ bitv y i = 0) → (topsOf l).length ≤ 1 → (topsOf l ≠ [] → T = 0) →
    l.foldl (fun f a => Builtin.bitOr f (itv a)) (y + T * 4294967296) = y + T * 4294967296 + sumI l
  | [], y, T, _, _, _, _, _, _ => by simp [sumI]
  | .inl i :: r, y, T, h0, h1, hn, hb, ht, hT => by
    have hn' : i ∉ bitsOf r ∧ (bitsOf r).Nodup := List.nodup_cons.mp hn
    have hbi := hb i (.head _)
    have hx : Builtin.bitOr (y + T * 4294967296) (2 ^ i) = y + 2 ^ i + T * 4294967296 := by
      rw [or_bit (by rw [bit_top _ _ hbi.1]; exact hbi.2)]; (first | lia | omega)
    have hp := two_pos i
    rw [List.foldl_cons]
    show r.foldl _ (Builtin.bitOr (y + T * 4294967296) (2 ^ i)) = _
    rw [hx, fold_or r (y + 2 ^ i) T (by (first | lia | omega)) (bit_room hbi.1 hbi.2 h0 h1) hn'.2 (fun j hj => ?_) ht hT]
    · show _ = _ + (itv (.inl i) + sumI r)
      show _ = _ + (2 ^ i + sumI r)
      (first | lia | omega)
    · have := hb j (.tail _ hj)
      refine ⟨this.1, ?_⟩
      rw [bit_add hbi.2 (fun e => hn'.1 (e ▸ hj))]
      exact this.2
  | .inr S :: r, y, T, h0, h1, hn, hb, ht, hT => by
    have hT0 : T = 0 := hT (by show S :: topsOf r ≠ []; exact List.cons_ne_nil _ _)
    subst hT0
    have hr : topsOf r = [] := by
      have : (S :: topsOf r).length ≤ 1 := ht
      cases e : topsOf r with
      | nil => rfl
      | cons a b => rw [e] at this; simp at this
    rw [List.foldl_cons]
    show r.foldl _ (Builtin.bitOr (y + 0 * 4294967296) (S * 4294967296)) = _
    rw [show y + 0 * 4294967296 = y by (first | lia | omega), or_top S h0 h1, fold_or r y S h0 h1 hn hb (by rw [hr]; simp) (fun h => absurd hr h)]
    show _ = _ + (itv (.inr S) + sumI r)
    show _ = _ + (S * 4294967296 + sumI r)
    (first | lia | omega)
theorem sum_perm {l k : List (Nat ⊕ Int)} (h : l.Perm k) : sumI l = sumI k := by
  induction h with
  | nil => rfl
  | cons a _ ih => exact congrArg (itv a + ·) ih
  | swap a b l => show itv b + (itv a + _) = itv a + (itv b + _); (first | lia | omega)
  | trans _ _ h1 h2 => exact h1.trans h2
end
-- PPre
section
noncomputable def sumP (bs : List Nat) : Int := (bs.map fun b => (2 : Int) ^ b).sum
theorem sumP_cons (b : Nat) (r : List Nat) : sumP (b :: r) = 2 ^ b + sumP r := by unfold sumP; simp
theorem sumP_app (a b : List Nat) : sumP (a ++ b) = sumP a + sumP b := by unfold sumP; simp
theorem sumP_lt : ∀ (bs : List Nat) (i : Nat), i ≤ 32 → bs.Pairwise (· < ·) → (∀ b ∈ bs, i ≤ b ∧ b < 32) → 0 ≤ sumP bs ∧ sumP bs ≤ 4294967296 - 2 ^ i
  | [], i, hi, _, _ => by
    have h1 : (2 : Int) ^ i ≤ 4294967296 := by
      rw [show (4294967296 : Int) = 2 ^ 32 by rfl, pow_split hi]
      have := two_pos (32 - i); have := two_pos i
      have h2 : (2 : Int) ^ i * 1 ≤ 2 ^ i * 2 ^ (32 - i) := Int.mul_le_mul_of_nonneg_left (by (first | lia | omega)) (by (first | lia | omega))
      (first | lia | omega)
    show 0 ≤ (0 : Int) ∧ (0 : Int) ≤ _
    (first | lia | omega)
  | b :: r, i, hi, hs, hb => by
    have hbb := hb b (.head _)
    have hs' := List.pairwise_cons.mp hs
    obtain ⟨h0, h1⟩ := sumP_lt r (b + 1) (by (first | lia | omega)) hs'.2 (fun c hc => ⟨hs'.1 c hc, (hb c (.tail _ hc)).2⟩)
    have hp : (2 : Int) ^ (b + 1) = 2 * 2 ^ b := pow_succ' b
    have hq := two_pos b
    have hib : (2 : Int) ^ i ≤ 2 ^ b := by
      rw [pow_split hbb.1]
      have := two_pos (b - i); have := two_pos i
      have h2 : (2 : Int) ^ i * 1 ≤ 2 ^ i * 2 ^ (b - i) := Int.mul_le_mul_of_nonneg_left (by (first | lia | omega)) (by (first | lia | omega))
      (first | lia | omega)
    rw [sumP_cons]
    (first | lia | omega)
theorem sumP_div : ∀ (bs : List Nat) (j : Nat) (T : Int), j ≤ 32 → (∀ b ∈ bs, j ≤ b) → ∃ q, sumP bs + T * 4294967296 = 2 ^ j * q
  | [], j, T, hj, _ => by
    refine ⟨T * 2 ^ (32 - j), ?_⟩
    show (0 : Int) + _ = _
    rw [show (4294967296 : Int) = 2 ^ 32 by rfl, pow_split hj, Int.zero_add, ← Int.mul_assoc, ← Int.mul_assoc, Int.mul_comm T]
  | b :: r, j, T, hj, hb => by
    obtain ⟨q, hq⟩ := sumP_div r j T hj (fun c hc => hb c (.tail _ hc))
    refine ⟨2 ^ (b - j) + q, ?_⟩
    rw [sumP_cons, Int.mul_add, ← pow_split (hb b (.head _)), ← hq]
    (first | lia | omega)
noncomputable def tailX (bs : List Nat) (T : Int) : List PySem.Str := if T = 0 then (if bs = [] then [baseText "0x" 16 0] else []) else [baseText "0x" 16 (T * 4294967296)]
theorem pretty_bits : ∀ (n i : Nat), i + n = 32 → ∀ (bs : List Nat) (T : Int) (acc : List PySem.Str), bs.Pairwise (· < ·) → (∀ b ∈ bs, i ≤ b ∧ b < 32) →
    prettyFrom n i (sumP bs + T * 4294967296) acc = acc ++ bs.map flagName ++ tailX bs T
  | 0, i, hi, bs, T, acc, hs, hb => by
    have e : bs = [] := by
      cases bs with
      | nil => rfl
      | cons b r => have := hb b (.head _); (first | lia | omega)
    subst e
    rw [prettyFrom]
    unfold tailX
    by_cases hT : T = 0
    · subst hT; simp [sumP]
    · rw [if_neg hT]; simp [sumP]
  | n + 1, i, hi, bs, T, acc, hs, hb => by
    have skip : (∀ b ∈ bs, i + 1 ≤ b) → prettyFrom (n + 1) i (sumP bs + T * 4294967296) acc = acc ++ bs.map flagName ++ tailX bs T := by
      intro h
      obtain ⟨q, hq⟩ := sumP_div bs (i + 1) T (by (first | lia | omega)) h
      have hz : (sumP bs + T * 4294967296) / 2 ^ i % 2 = 0 := by
        rw [hq, Int.pow_succ, Int.mul_assoc, Int.mul_ediv_cancel_left _ (Int.ne_of_gt (two_pos i))]
        (first | lia | omega)
      rw [prettyFrom, if_pos hz]
      exact pretty_bits n (i + 1) (by (first | lia | omega)) bs T acc hs (fun b hc => ⟨h b hc, (hb b hc).2⟩)
    cases bs with
    | nil => exact skip (fun b hb => nomatch hb)
    | cons b r =>
      have hs' := List.pairwise_cons.mp hs
      rcases Nat.lt_or_ge i b with hlt | hge
      · exact skip (fun c hc => by
          rcases List.mem_cons.mp hc with rfl | hc
          · exact hlt
          · have := hs'.1 c hc; (first | lia | omega))
      · have e : b = i := by have := (hb b (.head _)).1; (first | lia | omega)
        subst e
        have hr : ∀ c ∈ r, b + 1 ≤ c ∧ c < 32 := fun c hc => ⟨hs'.1 c hc, (hb c (.tail _ hc)).2⟩
        obtain ⟨q, hq⟩ := sumP_div r (b + 1) T (by (first | lia | omega)) (fun c hc => (hr c hc).1)
        have hone : ¬ (sumP (b :: r) + T * 4294967296) / 2 ^ b % 2 = 0 := by
          rw [sumP_cons, show 2 ^ b + sumP r + T * 4294967296 = (sumP r + T * 4294967296) + 2 ^ b * 1 by (first | lia | omega), add_mul_div, hq, Int.pow_succ, Int.mul_assoc, Int.mul_ediv_cancel_left _ (Int.ne_of_gt (two_pos b))]
          (first | lia | omega)
        have hsub : sumP (b :: r) + T * 4294967296 - 2 ^ b = sumP r + T * 4294967296 := by rw [sumP_cons]; (first | lia | omega)
        have hlt := sumP_lt r (b + 1) (by (first | lia | omega)) hs'.2 hr
        have hpb := two_pos (b + 1)
        rw [prettyFrom, if_neg hone, hsub]
        by_cases hz : sumP r + T * 4294967296 = 0
        · rw [if_pos hz]
          have hT : T = 0 := by (first | lia | omega)
          have hr0 : r = [] := by
            cases r with
            | nil => rfl
            | cons c s =>
              have h3 := two_pos c
              have h4 := sumP_lt s (c + 1) (by have := (hr c (.head _)).2; (first | lia | omega)) (List.pairwise_cons.mp hs'.2).2 (fun d hd => ⟨(List.pairwise_cons.mp hs'.2).1 d hd, (hr d (.tail _ hd)).2⟩)
              rw [sumP_cons] at hz
              (first | lia | omega)
          subst hT; subst hr0
          simp [tailX]
        · rw [if_neg hz, pretty_bits n (b + 1) (by (first | lia | omega)) r T (acc ++ [flagName b]) hs'.2 hr]
          have ht : tailX (b :: r) T = tailX r T := by
            unfold tailX
            by_cases hT : T = 0
            · rw [if_pos hT, if_pos hT]
              have : r ≠ [] := fun e => hz (by subst e; subst hT; simp [sumP])
              rw [if_neg this, if_neg (List.cons_ne_nil _ _)]
            · rw [if_neg hT, if_neg hT]
          rw [ht]
          simp
end
-- PDw
section
noncomputable def hB (f : Nat) : List Nat := if highN f < 32 then [highN f] else []
noncomputable def bsF (f : Nat) : List Nat := ksN f 10 ++ hB f
theorem flag_high : ∀ k, k < 32 → 10 ≤ k → flagName k = highS k := by decide +kernel
theorem top_hex : ∀ t, t < 5 → t ≠ 2 → baseText "0x" 16 (((t : Nat) : Int) * 4294967296 - 8589934592) = topS t := by decide +kernel
theorem zero_hex : baseText "0x" 16 0 = sL (figL 0 0) := by decide +kernel
theorem ks_sorted (f n : Nat) : (ksN f n).Pairwise (· < ·) := List.Pairwise.filter _ List.pairwise_lt_range
theorem bs_sorted (f : Nat) : (bsF f).Pairwise (· < ·) := by
  unfold bsF hB
  refine List.pairwise_append.mpr ⟨ks_sorted f 10, by split <;> simp, fun a ha b hb => ?_⟩
  have h1 := ks_lt ha
  split at hb
  · rw [List.mem_singleton.mp hb]; have := (high_ge f).1; (first | lia | omega)
  · cases hb
theorem bs_lt (f : Nat) : ∀ b ∈ bsF f, 0 ≤ b ∧ b < 32 := by
  intro b hb
  rcases List.mem_append.mp hb with h | h
  · have := ks_lt h; (first | lia | omega)
  · unfold hB at h
    split at h
    · rw [List.mem_singleton.mp h]; (first | lia | omega)
    · cases h
theorem drawnW_is (f : Nat) : drawnW f = sumP (bsF f) + ((topN f : Int) - 2) * 4294967296 := by
  unfold drawnW bsF hB
  rw [sumP_app]
  have e1 : worthK (ksN f 10) = sumP (ksN f 10) := rfl
  have e2 : (if highN f < 32 then (2 : Int) ^ highN f else 0) = sumP (if highN f < 32 then [highN f] else []) := by split <;> simp [sumP]
  have e3 : (if topN f ≠ 2 then ((topN f : Int) - 2) * 4294967296 else 0) = ((topN f : Int) - 2) * 4294967296 := by
    split
    · rfl
    · rename_i h
      have : topN f = 2 := by (first | lia | omega)
      rw [this]; rfl
  rw [e1, e2, e3]
theorem bs_names (f : Nat) : (bsF f).map flagName = (ksN f 10).map flagName ++ hX f := by
  unfold bsF hB hX
  rw [List.map_append]
  congr 1
  split
  · rename_i h; rw [List.map_singleton, flag_high _ h (high_ge f).1]
  · rfl
theorem pretty_drawn (f : Nat) : prettyS (drawnW f) = drawnP f := by
  unfold prettyS
  rw [drawnW_is, pretty_bits 32 0 rfl (bsF f) _ [] (bs_sorted f) (bs_lt f), bs_names, List.nil_append]
  unfold drawnP drawnP0
  have ht := top_lt f
  by_cases h2 : topN f = 2
  · have e1 : tX f = [] := by unfold tX; rw [if_neg (by (first | lia | omega))]
    rw [e1, List.append_nil, h2]
    congr 1
    unfold tailX zX
    rw [if_pos (by rfl)]
    have e3 : (bsF f = []) ↔ ((ksN f 10).map flagName ++ hX f).isEmpty = true := by
      rw [← bs_names, List.isEmpty_iff, List.map_eq_nil_iff]
    by_cases h : bsF f = []
    · rw [if_pos h, if_pos (e3.mp h), zero_hex]
    · rw [if_neg h, if_neg (fun q => h (e3.mpr q))]
  · have e1 : tX f = [topS (topN f)] := by unfold tX; rw [if_pos h2]
    have e2 : tailX (bsF f) ((topN f : Int) - 2) = [topS (topN f)] := by
      unfold tailX
      rw [if_neg (by (first | lia | omega)), show ((topN f : Int) - 2) * 4294967296 = (topN f : Int) * 4294967296 - 8589934592 by (first | lia | omega), top_hex _ ht h2]
    have e3 : zX ((ksN f 10).map flagName ++ hX f ++ [topS (topN f)]) = [] := by
      unfold zX; rw [if_neg]; simp
    rw [e1, e2, e3, List.append_nil]
/-- what is meant, as words -/
noncomputable def hW (f : Nat) : List Wd := if highN f < 32 then [.num false ([1, 2, 4, 8].getD (highN f % 4) 0) (highN f / 4)] else []
noncomputable def tW (f : Nat) : List Wd := if topN f ≠ 2 then [if topN f < 2 then .num true (2 - topN f) 8 else .num false (topN f - 2) 8] else []
noncomputable def zW (f : Nat) : List Wd := if (drawnP0 f).isEmpty then [.num false 0 0] else []
noncomputable def meantW (f a b : Nat) : List Wd := List.zipWith Wd.nam (ksN f 10) [a, b] ++ hW f ++ tW f ++ zW f
noncomputable def Wd.pair (w : Wd) : PySem.Str × Int := (w.str, w.price)
theorem map_zip {α β γ δ : Type} (g : γ → δ) (h : α → β → γ) : ∀ (l : List α) (k : List β), (List.zipWith h l k).map g = List.zipWith (fun x y => g (h x y)) l k
  | [], _ => by simp
  | _ :: _, [] => by simp
  | a :: l, b :: k => by simp [map_zip g h l k]
theorem hW_pair (f : Nat) : (hW f).map Wd.pair = neg1 (hX f) := by
  unfold hW hX neg1
  split <;> rfl
theorem tW_pair (f : Nat) : (tW f).map Wd.pair = neg1 (tX f) := by
  unfold tW tX neg1
  split
  · rename_i h
    rw [List.map_singleton, List.map_singleton]
    unfold topS
    split <;> rfl
  · rfl
theorem zW_pair (f : Nat) : (zW f).map Wd.pair = neg1 (zX (drawnP0 f)) := by
  unfold zW zX neg1
  split <;> rfl
theorem meant_pair (f a b : Nat) : (meantW f a b).map Wd.pair = drawnM f a b := by
  unfold meantW drawnM
  rw [List.map_append, List.map_append, List.map_append, hW_pair, tW_pair, zW_pair, map_zip]
  rfl
theorem high_digit : ∀ k, k < 4 → [1, 2, 4, 8].getD k 0 < 10 := by decide
theorem meant_ok (f a b : Nat) : ∀ w ∈ meantW f a b, w.ok := by
  intro w hw
  unfold meantW at hw
  rcases List.mem_append.mp hw with hw | hw
  · rcases List.mem_append.mp hw with hw | hw
    · rcases List.mem_append.mp hw with hw | hw
      · have key : ∀ (l k : List Nat), (∀ x ∈ l, x < 10) → ∀ w ∈ List.zipWith Wd.nam l k, w.ok := by
          intro l
          induction l with
          | nil => intro k _ w hw; simp at hw
          | cons x l ih =>
            intro k hl w hw
            cases k with
            | nil => simp at hw
            | cons y k =>
              rw [List.zipWith_cons_cons] at hw
              rcases List.mem_cons.mp hw with rfl | hw
              · exact hl x (.head _)
              · exact ih k (fun z hz => hl z (.tail _ hz)) w hw
        exact key _ _ (fun x hx => ks_lt hx) w hw
      · unfold hW at hw
        split at hw
        · rw [List.mem_singleton.mp hw]
          exact ⟨high_digit _ (Nat.mod_lt _ (by decide)), by (first | lia | omega)⟩
        · cases hw
    · unfold tW at hw
      have := top_lt f
      split at hw
      · rw [List.mem_singleton.mp hw]
        split
        · exact ⟨by (first | lia | omega), by (first | lia | omega)⟩
        · exact ⟨by (first | lia | omega), by (first | lia | omega)⟩
      · cases hw
  · unfold zW at hw
    split at hw
    · rw [List.mem_singleton.mp hw]; exact ⟨by decide, by decide⟩
    · cases hw
theorem meant_len (f a b : Nat) : 0 < (meantW f a b).length ∧ (meantW f a b).length ≤ 5 := by
  have h1 : (List.zipWith Wd.nam (ksN f 10) [a, b]).length = (ksN f 10).length := by
    rw [List.length_zipWith]; have := ks_two f 10 (by decide); simp; (first | lia | omega)
  have h2 : (hW f).length ≤ 1 := by unfold hW; split <;> simp
  have h3 : (tW f).length ≤ 1 := by unfold tW; split <;> simp
  have h4 : (zW f).length ≤ 1 := by unfold zW; split <;> simp
  have h5 := ks_two f 10 (by decide)
  have h6 : (hW f).length = (hX f).length := by have := congrArg List.length (hW_pair f); simpa [neg1] using this
  have h7 : (tW f).length = (tX f).length := by have := congrArg List.length (tW_pair f); simpa [neg1] using this
  unfold meantW
  rw [List.length_append, List.length_append, List.length_append, h1]
  refine ⟨?_, by (first | lia | omega)⟩
  by_cases hz : (drawnP0 f).isEmpty = true
  · have : (zW f).length = 1 := by unfold zW; rw [if_pos hz]; rfl
    (first | lia | omega)
  · have hne : 0 < (drawnP0 f).length := by
      cases e : drawnP0 f with
      | nil => rw [e] at hz; simp at hz
      | cons x r => simp
    unfold drawnP0 at hne
    rw [List.length_append, List.length_append, List.length_map] at hne
    (first | lia | omega)
end
-- PFo
section
noncomputable def tI (f : Nat) : List (Nat ⊕ Int) := if topN f ≠ 2 then [.inr ((topN f : Int) - 2)] else []
noncomputable def zI (f : Nat) : List (Nat ⊕ Int) := if (drawnP0 f).isEmpty then [.inr 0] else []
noncomputable def itemsF (f : Nat) : List (Nat ⊕ Int) := (bsF f).map Sum.inl ++ tI f ++ zI f
theorem zip_val : ∀ (ks : List Nat) (a b : Nat), ks.length ≤ 2 → (List.zipWith Wd.nam ks [a, b]).map Wd.val = ks.map fun k => (2 : Int) ^ k
  | [], _, _, _ => rfl
  | [x], _, _, _ => rfl
  | [x, y], _, _, _ => rfl
  | _ :: _ :: _ :: _, _, _, h => by simp at h
theorem high_val : ∀ k, k < 32 → (([1, 2, 4, 8].getD (k % 4) 0 : Nat) : Int) * 2 ^ (4 * (k / 4)) = 2 ^ k := by decide
theorem hW_val (f : Nat) : (hW f).map Wd.val = (hB f).map fun k => (2 : Int) ^ k := by
  unfold hW hB
  split
  · rename_i h
    rw [List.map_singleton, List.map_singleton]
    congr 1
    exact high_val _ h
  · rfl
theorem top_val : ∀ t, t < 5 → t ≠ 2 → (if t < 2 then Wd.num true (2 - t) 8 else Wd.num false (t - 2) 8).val = ((t : Nat) : Int) * 4294967296 - 8589934592 := by decide
theorem tW_val (f : Nat) : (tW f).map Wd.val = (tI f).map itv := by
  unfold tW tI
  split
  · rename_i h
    rw [List.map_singleton, List.map_singleton]
    congr 1
    rw [top_val _ (top_lt f) h]
    show _ = ((topN f : Int) - 2) * 4294967296
    (first | lia | omega)
  · rfl
theorem zW_val (f : Nat) : (zW f).map Wd.val = (zI f).map itv := by
  unfold zW zI
  split
  · rfl
  · rfl
theorem meant_val (f a b : Nat) : (meantW f a b).map Wd.val = (itemsF f).map itv := by
  unfold meantW itemsF bsF
  rw [List.map_append, List.map_append, List.map_append, zip_val _ _ _ (ks_two f 10 (by decide)), hW_val, tW_val, zW_val]
  simp only [List.map_append, List.map_map]
  rfl
theorem turn_map {α β : Type} (g : α → β) (l : List α) (j : Nat) : (turnP l j).map g = turnP (l.map g) j := by
  unfold turnP
  rw [List.map_append, List.map_drop, List.map_take]
theorem turn_perm {α : Type} (l : List α) (j : Nat) : (turnP l j).Perm l := by
  unfold turnP
  have := List.perm_append_comm (l₁ := l.drop j) (l₂ := l.take j)
  rw [List.take_append_drop] at this
  exact this
theorem bits_items (f : Nat) : bitsOf (itemsF f) = bsF f := by
  unfold itemsF bitsOf
  rw [List.filterMap_append, List.filterMap_append]
  have e1 : ∀ l : List Nat, (l.map (Sum.inl : Nat → Nat ⊕ Int)).filterMap bitOf = l := by
    intro l
    induction l with
    | nil => rfl
    | cons a l ih => simp [ih, bitOf, topOf]
  have e2 : (tI f).filterMap bitOf = ([] : List Nat) := by unfold tI; split <;> rfl
  have e3 : (zI f).filterMap bitOf = ([] : List Nat) := by unfold zI; split <;> rfl
  rw [e1, e2, e3, List.append_nil, List.append_nil]
theorem tops_items (f : Nat) : (topsOf (itemsF f)).length ≤ 1 := by
  unfold itemsF topsOf
  rw [List.filterMap_append, List.filterMap_append]
  have e1 : ∀ l : List Nat, (l.map (Sum.inl : Nat → Nat ⊕ Int)).filterMap topOf = ([] : List Int) := by
    intro l
    induction l with
    | nil => rfl
    | cons a l ih => simp [ih, bitOf, topOf]
  rw [e1, List.nil_append]
  have h1 : ∀ l : List (Nat ⊕ Int), (l.filterMap topOf).length ≤ l.length := fun l => List.length_filterMap_le _ _
  have h2 := h1 (tI f)
  have h3 := h1 (zI f)
  rw [List.length_append]
  by_cases hz : (drawnP0 f).isEmpty = true
  · have ht : tI f = [] := by
      unfold tI
      rw [if_neg]
      intro hne
      have : tX f = [topS (topN f)] := by unfold tX; rw [if_pos hne]
      unfold drawnP0 at hz
      rw [this] at hz
      simp at hz
    have hzl : (zI f).length ≤ 1 := by unfold zI; split <;> simp
    rw [ht] at h2 ⊢
    simp at h2 ⊢
    (first | lia | omega)
  · have hz0 : zI f = [] := by unfold zI; rw [if_neg hz]
    have htl : (tI f).length ≤ 1 := by unfold tI; split <;> simp
    rw [hz0] at h3 ⊢
    simp at h3 ⊢
    (first | lia | omega)
theorem sumI_app (a b : List (Nat ⊕ Int)) : sumI (a ++ b) = sumI a + sumI b := by
  induction a with
  | nil => show sumI b = 0 + sumI b; (first | lia | omega)
  | cons x a ih => show itv x + sumI (a ++ b) = itv x + sumI a + sumI b; (first | lia | omega)
theorem sumI_bits (l : List Nat) : sumI (l.map Sum.inl) = sumP l := by
  induction l with
  | nil => rfl
  | cons x l ih => rw [sumP_cons, ← ih]; rfl
theorem sum_items (f : Nat) : sumI (itemsF f) = drawnW f := by
  unfold itemsF
  rw [sumI_app, sumI_app, sumI_bits, drawnW_is]
  have e1 : sumI (zI f) = 0 := by unfold zI; split <;> rfl
  have e2 : sumI (tI f) = ((topN f : Int) - 2) * 4294967296 := by
    unfold tI
    split
    · show ((topN f : Int) - 2) * 4294967296 + 0 = _; (first | lia | omega)
    · rename_i h
      have : topN f = 2 := by (first | lia | omega)
      rw [this]; rfl
  rw [e1, e2]; (first | lia | omega)
theorem bit_zero0 (i : Nat) : bitv 0 i = 0 := by unfold bitv; simp
theorem found_drawn (f a b j : Nat) : foundW (turnP (meantW f a b) j) = drawnW f := by
  have e1 : foundW (turnP (meantW f a b) j) = ((turnP (meantW f a b) j).map Wd.val).foldl Builtin.bitOr 0 := by
    unfold foundW; rw [List.foldl_map]
  have hp := turn_perm (itemsF f) j
  have hpb : (bitsOf (turnP (itemsF f) j)).Perm (bsF f) := by rw [← bits_items]; exact hp.filterMap _
  have hpt : (topsOf (turnP (itemsF f) j)).length ≤ 1 := by
    have : (topsOf (turnP (itemsF f) j)).Perm (topsOf (itemsF f)) := hp.filterMap _
    rw [this.length_eq]; exact tops_items f
  have hnd : (bsF f).Nodup := (bs_sorted f).imp fun h => Nat.ne_of_lt h
  have key := fold_or (turnP (itemsF f) j) 0 0 (by decide) (by decide) (hpb.nodup_iff.mpr hnd) (fun i hi => ⟨(bs_lt f i (hpb.mem_iff.mp hi)).2, bit_zero0 i⟩) hpt (fun _ => rfl)
  rw [show (0 : Int) + 0 * 4294967296 = 0 by rfl] at key
  rw [e1, turn_map, meant_val, ← turn_map, List.foldl_map, key, sum_perm hp, sum_items]; (first | lia | omega)
theorem paid_filter (ws : List Wd) : ws.flatMap Wd.paid = ((ws.map Wd.pair).filter fun q => decide (0 ≤ q.2)).map (·.2) := by
  induction ws with
  | nil => rfl
  | cons w r ih =>
    rw [List.flatMap_cons, List.map_cons, ih]
    cases w with
    | num neg d k => rfl
    | nam i sl =>
      have h : (0 : Int) ≤ (Wd.pair (.nam i sl)).2 := by show (0 : Int) ≤ if sl % 4 = 0 then 0 else 2; split <;> decide
      rw [List.filter_cons, if_pos (by exact decide_eq_true h)]
      rfl
end
-- PHe
section
noncomputable def okC (c : Nat) : Bool := c == 95 || (97 ≤ c && c ≤ 122) || (48 ≤ c && c ≤ 57) || c == 45
noncomputable def signF (form c : Nat) : Nat := if form = 0 ∨ c < 97 ∨ 122 < c then c else if form = 1 then c - 32 else firstsL.getD (form - 2) 0 + c - 97
noncomputable def blkV (k : Int) (y : PySem.Str) : Bool := firstsL.all fun (f : Nat) => if (f : Int) ≤ k ∧ k < f + 26 then y == sL [97 + (k - f).toNat] else true
theorem blocks : ((entsOf b3Main).all fun e => match e.key, e.val with | .int k _, .str y _ => blkV k y && decide (181 ≤ k) | _, _ => false) = true := by decide +kernel
noncomputable def keyOf (e : DictEntry) : Int := match e.key with | .int k _ => k | _ => 0
theorem keys_blk : ((firstsL.zip [202, 228, 254, 298, 364, 390, 416, 442, 468, 494]).all fun p => (((entsOf b3Main).drop p.2).take 26).map keyOf == (List.range 26).map fun (j : Nat) => ((p.1 : Nat) : Int) + j) = true := by decide +kernel
theorem find_first {k : Int} (h : ∃ e ∈ entsOf b3Main, keyOf e = k) (h0 : k ≠ 0) : ∃ y u, findI (entsOf b3Main) k = some (.str y u) ∧ blkV k y = true := by
  obtain ⟨e, he, hk⟩ := h
  unfold findI
  cases hf : (entsOf b3Main).find? (fun e => match e.key with | .int i _ => decide (i = k) | _ => false) with
  | none =>
    have := List.find?_eq_none.mp hf e he
    have hb := List.all_eq_true.mp blocks e he
    obtain ⟨hs, ke, v⟩ := e
    cases ke <;> first | (simp [keyOf] at hk; omega) | skip
    rename_i i t
    simp [keyOf] at hk
    simp [hk] at this
  | some e' =>
    have h1 := List.find?_some hf
    have hb := List.all_eq_true.mp blocks e' (List.mem_of_find?_eq_some hf)
    obtain ⟨hs, ke, v⟩ := e'
    cases ke <;> first | cases h1 | skip
    rename_i i t
    have hi : i = k := of_decide_eq_true h1
    cases v <;> first | cases hb | skip
    rename_i y u
    refine ⟨y, u, rfl, ?_⟩
    have hb : (blkV i y && decide (181 ≤ i)) = true := hb
    rw [Bool.and_eq_true] at hb
    rw [← hi]; exact hb.1
theorem find_low {k : Int} (h : k < 181) : findI (entsOf b3Main) k = none := by
  unfold findI
  cases hf : (entsOf b3Main).find? (fun e => match e.key with | .int i _ => decide (i = k) | _ => false) with
  | none => rfl
  | some e' =>
    have h1 := List.find?_some hf
    have hb := List.all_eq_true.mp blocks e' (List.mem_of_find?_eq_some hf)
    obtain ⟨hs, ke, v⟩ := e'
    cases ke <;> first | cases h1 | skip
    rename_i i t
    have hi : i = k := of_decide_eq_true h1
    cases v <;> first | cases hb | skip
    rename_i y u
    have hb : (blkV i y && decide (181 ≤ i)) = true := hb
    rw [Bool.and_eq_true] at hb
    have := of_decide_eq_true hb.2
    omega
theorem b3_low {c : Nat} (h : c < 181) : b3S c = Txt.lower ⟨#[c]⟩ := by
  unfold b3S
  rw [find_low (by omega)]
theorem b3_math {i j : Nat} (hi : i < 10) (hj : j < 26) : b3S (firstsL.getD i 0 + j) = sL [97 + j] := by
  have hil : i < firstsL.length := hi
  have hp : i < ([202, 228, 254, 298, 364, 390, 416, 442, 468, 494] : List Nat).length := hi
  have hz : (firstsL.zip [202, 228, 254, 298, 364, 390, 416, 442, 468, 494])[i]? = some (firstsL.getD i 0, ([202, 228, 254, 298, 364, 390, 416, 442, 468, 494] : List Nat).getD i 0) := by
    rw [List.getElem?_zip_eq_some]
    exact ⟨(by rw [List.getD, List.getElem?_eq_getElem hil, Option.getD_some]), (by rw [List.getD, List.getD, List.getElem?_eq_getElem hp, Option.getD_some])⟩
  have hb := eq_of_beq (List.all_eq_true.mp keys_blk _ (List.mem_of_getElem? hz))
  dsimp only at hb
  have hm : (((firstsL.getD i 0 : Nat) : Int) + (j : Int)) ∈ (List.range 26).map fun (j : Nat) => (((firstsL.getD i 0 : Nat) : Int) + j) := List.mem_map.mpr ⟨j, List.mem_range.mpr hj, rfl⟩
  rw [← hb] at hm
  obtain ⟨e, he, hk⟩ := List.mem_map.mp hm
  have hbig : 119808 ≤ firstsL.getD i 0 := by
    have : ∀ q, q < 10 → 119808 ≤ firstsL.getD q 0 := by decide
    exact this i hi
  obtain ⟨y, u, hf, hv⟩ := find_first ⟨e, List.mem_of_mem_drop (List.mem_of_mem_take he), hk⟩ (by omega)
  have hv2 := List.all_eq_true.mp hv (firstsL.getD i 0) (by rw [List.getD, List.getElem?_eq_getElem hil]; exact List.getElem_mem _)
  rw [if_pos ⟨by omega, by omega⟩] at hv2
  have hy := eq_of_beq hv2
  unfold b3S
  rw [show (((firstsL.getD i 0 + j : Nat)) : Int) = ((firstsL.getD i 0 : Nat) : Int) + (j : Int) by omega, hf]
  rw [hy]
  show sL [97 + (((firstsL.getD i 0 : Nat) : Int) + (j : Int) - ((firstsL.getD i 0 : Nat) : Int)).toNat] = _
  rw [show (((firstsL.getD i 0 : Nat) : Int) + (j : Int) - ((firstsL.getD i 0 : Nat) : Int)).toNat = j by omega]
theorem low_small : ∀ c, c < 123 → okC c = true → Txt.lower (⟨#[c]⟩ : PySem.Str) = sL [c] := by decide +kernel
theorem low_upper : ∀ j, j < 26 → Txt.lower (⟨#[65 + j]⟩ : PySem.Str) = sL [97 + j] := by decide +kernel
theorem okC_lt {c : Nat} (h : okC c = true) : c < 123 := by
  unfold okC at h
  simp at h
  omega
theorem sign_fold {form c : Nat} (hf : form < 12) (hc : okC c = true) : b3S (signF form c) = sL [c] := by
  have hlt := okC_lt hc
  unfold signF
  split
  · rw [b3_low (by omega)]; exact low_small c hlt hc
  · rename_i h1
    split
    · rw [b3_low (by omega), show c - 32 = 65 + (c - 97) by omega, low_upper (c - 97) (by omega), show 97 + (c - 97) = c by omega]
    · rename_i h2
      have := b3_math (i := form - 2) (j := c - 97) (by omega) (by omega)
      rw [show firstsL.getD (form - 2) 0 + c - 97 = firstsL.getD (form - 2) 0 + (c - 97) by omega, this, show 97 + (c - 97) = c by omega]
theorem inB1_small : ∀ c, c < 123 → inB1 ((c : Nat) : Int) = false := by decide
theorem b1_math {i j : Nat} (hi : i < 10) (hj : j < 26) : inB1 ((firstsL.getD i 0 + j : Nat) : Int) = false := by
  have key : ∀ q, q < 10 → ∀ r, r < 26 → inB1 ((firstsL.getD q 0 + r : Nat) : Int) = false := by decide +kernel
  exact key i hi j hj
theorem sign_b1 {form c : Nat} (hf : form < 12) (hc : c < 123) : inB1 ((signF form c : Nat) : Int) = false := by
  unfold signF
  split
  · exact inB1_small c hc
  · split
    · exact inB1_small _ (by omega)
    · rw [show firstsL.getD (form - 2) 0 + c - 97 = firstsL.getD (form - 2) 0 + (c - 97) by omega]
      exact b1_math (by omega) (by omega)
theorem sign_sep {form c : Nat} (hf : form < 12) (hc : okC c = true) : ¬ (signF form c = 32 ∨ signF form c = 44) := by
  have hlt := okC_lt hc
  have hne : c ≠ 32 ∧ c ≠ 44 := by
    constructor
    · intro e; subst e; exact absurd hc (by decide)
    · intro e; subst e; exact absurd hc (by decide)
  have hbig : ∀ q, q < 10 → 119808 ≤ firstsL.getD q 0 := by decide
  unfold signF
  split
  · omega
  · split
    · omega
    · have := hbig (form - 2) (by omega); omega
theorem extra_b1 (k seed : Nat) : ∀ c ∈ extraOf k seed, inB1 ((c : Nat) : Int) = true := by
  intro c hc
  unfold extraOf at hc
  split at hc
  · rw [List.mem_singleton.mp hc]
    have key : ∀ q, q < 27 → inB1 ((unseenL.getD q 0 : Nat) : Int) = true := by decide
    exact key _ (Nat.mod_lt _ (by decide))
  · cases hc
end
-- PHd
section
noncomputable def isSep (c : Nat) : Bool := c == 32 || c == 44
noncomputable def sStep (ws : List PySem.Str) (c : Nat) : List PySem.Str :=
  if c = 32 ∨ c = 44 then ws ++ [sL []] else ws.set (ws.length - 1) (ws.getD (ws.length - 1) (sL []) ++ sL [c])
theorem sign_is (k c seed : Nat) : signOf k c seed = signF (formOf k seed) c := rfl
theorem skip_all : ∀ (l : List Nat) (ws : List PySem.Str), (∀ c ∈ l, inB1 ((c : Nat) : Int) = true) → l.foldl hStep ws = ws
  | [], _, _ => rfl
  | c :: r, ws, h => by
    rw [List.foldl_cons, show hStep ws c = ws by unfold hStep; rw [if_pos (h c (.head _))]]
    exact skip_all r ws fun d hd => h d (.tail _ hd)
theorem step_same {k c seed : Nat} (ws : List PySem.Str) (h : okC c = true ∨ isSep c = true) : hStep ws (signOf k c seed) = sStep ws c := by
  have hf := form_lt k seed
  rw [sign_is]
  rcases h with h | h
  · have h1 := sign_b1 (form := formOf k seed) hf (okC_lt h)
    have h2 := sign_sep hf h
    have h3 := sign_fold hf h
    have hne : ¬ (c = 32 ∨ c = 44) := by
      rintro (e | e)
      · subst e; exact absurd h (by decide)
      · subst e; exact absurd h (by decide)
    unfold hStep sStep
    rw [h1, if_neg (by decide), if_neg h2, if_neg hne, h3]
  · have hc : c = 32 ∨ c = 44 := by unfold isSep at h; simp at h; exact h
    have e : signF (formOf k seed) c = c := by unfold signF; rw [if_pos (by (first | lia | omega))]
    rw [e]
    unfold hStep sStep
    rw [inB1_small c (by (first | lia | omega)), if_neg (by decide), if_pos hc, if_pos hc]
theorem typed_fold : ∀ (l : List Nat) (k seed : Nat) (ws : List PySem.Str), (∀ c ∈ l, okC c = true ∨ isSep c = true) → (typedFrom k l seed).foldl hStep ws = l.foldl sStep ws
  | [], _, _, _, _ => rfl
  | c :: r, k, seed, ws, h => by
    rw [typedFrom, List.foldl_cons, List.foldl_append, step_same ws (h c (.head _)), skip_all _ _ (extra_b1 k seed), typed_fold r (k + 1) seed _ fun d hd => h d (.tail _ hd)]
    rfl
theorem set_last (pre : List PySem.Str) (cur x : PySem.Str) : (pre ++ [cur]).set ((pre ++ [cur]).length - 1) ((pre ++ [cur]).getD ((pre ++ [cur]).length - 1) (sL []) ++ x) = pre ++ [cur ++ x] := by
  have e : (pre ++ [cur]).length - 1 = pre.length := by simp
  rw [e, List.getD, List.getElem?_append_right (Nat.le_refl _), Nat.sub_self]
  rw [List.set_append_right _ _ (Nat.le_refl _), Nat.sub_self]
  rfl
theorem word_fold : ∀ (l : List Nat) (pre : List PySem.Str) (cur : List Nat), (∀ c ∈ l, isSep c = false) → l.foldl sStep (pre ++ [sL cur]) = pre ++ [sL (cur ++ l)]
  | [], pre, cur, _ => by simp
  | c :: r, pre, cur, h => by
    have hc := h c (.head _)
    have hne : ¬ (c = 32 ∨ c = 44) := by
      rintro (e | e)
      · subst e; cases hc
      · subst e; cases hc
    rw [List.foldl_cons]
    have e : sStep (pre ++ [sL cur]) c = pre ++ [sL (cur ++ [c])] := by
      unfold sStep
      rw [if_neg hne, set_last, sL_app]
    rw [e, word_fold r pre (cur ++ [c]) fun d hd => h d (.tail _ hd)]
    simp
theorem sep_fold : ∀ (l : List Nat) (ws : List PySem.Str), (∀ c ∈ l, isSep c = true) → l.foldl sStep ws = ws ++ List.replicate l.length (sL [])
  | [], ws, _ => by simp
  | c :: r, ws, h => by
    have hc : c = 32 ∨ c = 44 := by have := h c (.head _); unfold isSep at this; simp at this; exact this
    rw [List.foldl_cons, show sStep ws c = ws ++ [sL []] by unfold sStep; rw [if_pos hc], sep_fold r _ fun d hd => h d (.tail _ hd)]
    simp [List.replicate_succ]
theorem seps : ∀ j, j < 4 → (∀ c ∈ sepL j, isSep c = true) ∧ 0 < (sepL j).length := by decide
noncomputable def neX (x : PySem.Str) : Bool := !(x == PySem.Str.ofString "")
theorem ne_nil : neX (sL []) = false := by decide +kernel
theorem ne_cons {x : PySem.Str} (h : 0 < x.length) : neX x = true := by
  unfold neX
  rw [show PySem.Str.ofString "" = sL [] by kernel_rfl]
  have : (x == sL []) = false := by
    apply beq_false_of_ne
    intro e
    rw [e, sL_len] at h
    simp at h
  rw [this]; rfl
theorem filter_reps (n : Nat) : (List.replicate n (sL [])).filter neX = [] := by
  induction n with
  | zero => rfl
  | succ n ih => rw [List.replicate_succ, List.filter_cons, ne_nil]; exact ih
theorem reps_last {n : Nat} (h : 0 < n) : List.replicate n (sL []) = List.replicate (n - 1) (sL []) ++ [sL []] := by
  obtain ⟨k, rfl⟩ : ∃ k, n = k + 1 := ⟨n - 1, by (first | lia | omega)⟩
  rw [Nat.add_sub_cancel, ← List.replicate_succ']
theorem plain_fold (n3 : Nat) : ∀ (ps : List (PySem.Str × Int)) (i : Nat) (pre : List PySem.Str), (∀ p ∈ ps, 0 < p.1.length ∧ ∀ c ∈ ltr p.1, isSep c = false) →
    ((plainL n3 i ps).foldl sStep (pre ++ [sL []])).filter neX = pre.filter neX ++ ps.map (·.1)
  | [], i, pre, _ => by
    rw [plainL, List.foldl_nil, List.filter_append, List.filter_cons, ne_nil]; rfl
  | p :: r, i, pre, h => by
    obtain ⟨h0, hs⟩ := h p (.head _)
    obtain ⟨s1, s2⟩ := seps ((n3 / 5 + i) % 4) (Nat.mod_lt _ (by decide))
    rw [plainL, List.foldl_append, List.foldl_append, word_fold _ _ _ hs, List.nil_append, ltr_is, sep_fold _ _ s1, reps_last s2, ← List.append_assoc,
      plain_fold n3 r (i + 1) _ fun q hq => h q (.tail _ hq), List.filter_append, List.filter_append, filter_reps, List.filter_cons, ne_cons h0]
    simp
theorem heard_plain {n3 seed : Nat} {ps : List (PySem.Str × Int)} (h : ∀ p ∈ ps, 0 < p.1.length ∧ ∀ c ∈ ltr p.1, okC c = true) (hps : ∀ c ∈ plainL n3 0 ps, okC c = true ∨ isSep c = true) : heardS (typedFrom 0 (plainL n3 0 ps) seed) = ps.map (·.1) := by
  unfold heardS
  rw [typed_fold _ _ _ _ hps]
  have := plain_fold n3 ps 0 [] (fun p hp => ⟨(h p hp).1, fun c hc => by
    have hk := (h p hp).2 c hc
    cases e : isSep c with
    | false => rfl
    | true =>
      unfold isSep at e
      simp at e
      rcases e with e | e
      · subst e; exact absurd hk (by decide)
      · subst e; exact absurd hk (by decide)⟩)
  exact this
theorem plain_chars (n3 : Nat) : ∀ (ps : List (PySem.Str × Int)) (i : Nat), (∀ p ∈ ps, ∀ c ∈ ltr p.1, okC c = true) → ∀ c ∈ plainL n3 i ps, okC c = true ∨ isSep c = true
  | [], i, _, c, hc => by rw [plainL] at hc; cases hc
  | p :: r, i, h, c, hc => by
    rw [plainL] at hc
    rcases List.mem_append.mp hc with hc | hc
    · rcases List.mem_append.mp hc with hc | hc
      · exact .inl (h p (.head _) c hc)
      · exact .inr ((seps _ (Nat.mod_lt _ (by decide))).1 c hc)
    · exact plain_chars n3 r (i + 1) (fun q hq => h q (.tail _ hq)) c hc
theorem plain_len (n3 m : Nat) : ∀ (ps : List (PySem.Str × Int)) (i : Nat), (∀ p ∈ ps, p.1.length ≤ m) → (plainL n3 i ps).length ≤ (m + 3) * ps.length
  | [], i, _ => by simp [plainL]
  | p :: r, i, h => by
    have h1 := h p (.head _)
    have h2 := sepL_len ((n3 / 5 + i) % 4)
    have h3 := plain_len n3 m r (i + 1) fun q hq => h q (.tail _ hq)
    rw [plainL, List.length_append, List.length_append, ltr_len, List.length_cons, Nat.mul_add, Nat.mul_one]
    (first | lia | omega)
theorem typed_len : ∀ (l : List Nat) (k seed : Nat), (typedFrom k l seed).length ≤ 2 * l.length
  | [], _, _ => by simp [typedFrom]
  | c :: r, k, seed => by
    have h1 := extra_len k seed
    have h2 := typed_len r (k + 1) seed
    rw [typedFrom, List.length_cons, List.length_append, List.length_cons]
    (first | lia | omega)
theorem b3_unseen : ∀ q, q < 27 → (b3S (unseenL.getD q 0)).length ≤ 10 := by decide +kernel
theorem typed_b3 : ∀ (l : List Nat) (k seed : Nat), (∀ c ∈ l, okC c = true ∨ isSep c = true) → ∀ c ∈ typedFrom k l seed, (b3S c).length ≤ 10
  | [], _, _, _, c, hc => by rw [typedFrom] at hc; cases hc
  | d :: r, k, seed, h, c, hc => by
    rw [typedFrom] at hc
    rcases List.mem_cons.mp hc with rfl | hc
    · rw [sign_is]
      have hf := form_lt k seed
      rcases h d (.head _) with hd | hd
      · rw [sign_fold hf hd, sL_len]; simp
      · have hd2 : d = 32 ∨ d = 44 := by unfold isSep at hd; simp at hd; exact hd
        have e : signF (formOf k seed) d = d := by unfold signF; rw [if_pos (by (first | lia | omega))]
        rw [e, b3_low (by (first | lia | omega))]
        rcases hd2 with e | e <;> subst e <;> decide +kernel
    · rcases List.mem_append.mp hc with hc | hc
      · unfold extraOf at hc
        split at hc
        · rw [List.mem_singleton.mp hc]; exact b3_unseen _ (Nat.mod_lt _ (by decide))
        · cases hc
      · exact typed_b3 r (k + 1) seed (fun q hq => h q (.tail _ hq)) c hc
end
-- PFin
section
theorem ltr_sL (l : List Nat) : ltr (sL l) = l := rfl
theorem fig_okC {d k : Nat} (h : d < 10) : ∀ c ∈ figL d k, okC c = true := by
  intro c hc
  unfold figL at hc
  rcases List.mem_cons.mp hc with rfl | hc
  · decide
  rcases List.mem_cons.mp hc with rfl | hc
  · decide
  rcases List.mem_cons.mp hc with rfl | hc
  · have key : ∀ d, d < 10 → okC (48 + d) = true := by decide
    exact key d h
  · rw [(List.mem_replicate.mp hc).2]; decide
theorem wd_chars {w : Wd} (h : w.ok) : ∀ c ∈ ltr w.str, okC c = true := by
  cases w with
  | num neg d k =>
    cases neg
    · exact fig_okC h.1
    · intro c hc
      rcases List.mem_cons.mp hc with rfl | hc
      · decide
      · exact fig_okC h.1 c hc
  | nam i sl =>
    intro c hc
    have := slip_chars (sl := sl) h c hc
    unfold okC
    simp
    (first | lia | omega)
theorem str_ok {x : PySem.Str} (h : ∀ c ∈ ltr x, okC c = true) : PyData.strOk x = true := by
  unfold PyData.strOk
  rw [← Array.all_toList, List.all_eq_true]
  intro c hc
  have := okC_lt (h c hc)
  simp
  (first | lia | omega)
theorem okOrSep_le {c : Nat} (h : okC c = true ∨ isSep c = true) : c ≤ 200 := by
  rcases h with h | h
  · have := okC_lt h; (first | lia | omega)
  · unfold isSep at h; simp at h; (first | lia | omega)
theorem plain_len2 (n3 : Nat) : ∀ (ps : List (PySem.Str × Int)) (i : Nat), (plainL n3 i ps).length ≤ (ps.map fun p => p.1.length).sum + 3 * ps.length
  | [], i => by simp [plainL]
  | p :: r, i => by
    have h2 := sepL_len ((n3 / 5 + i) % 4)
    have h3 := plain_len2 n3 r (i + 1)
    rw [plainL, List.length_append, List.length_append, ltr_len, List.length_cons, List.map_cons, List.sum_cons]
    (first | lia | omega)
noncomputable def lenW (ws : List Wd) : Nat := (ws.map fun w => w.str.length).sum
theorem lenW_app (a b : List Wd) : lenW (a ++ b) = lenW a + lenW b := by unfold lenW; rw [List.map_append, List.sum_append]
theorem lenW_turn (ws : List Wd) (j : Nat) : lenW (turnP ws j) = lenW ws := by
  unfold turnP
  rw [lenW_app, Nat.add_comm, ← lenW_app, List.take_append_drop]
theorem lenW_le {n : Nat} : ∀ (ws : List Wd), (∀ w ∈ ws, w.str.length ≤ n) → lenW ws ≤ n * ws.length
  | [], _ => by simp [lenW]
  | w :: r, h => by
    have h1 := h w (.head _)
    have h2 := lenW_le r fun x hx => h x (.tail _ hx)
    have e : lenW (w :: r) = w.str.length + lenW r := by unfold lenW; rw [List.map_cons, List.sum_cons]
    rw [e, List.length_cons, Nat.mul_add, Nat.mul_one]
    (first | lia | omega)
theorem numW_len (neg : Bool) (d k : Nat) : (Wd.str (.num neg d k)).length ≤ k + 4 := by
  cases neg
  · have e : (Wd.str (.num false d k)).length = k + 3 := fig_len (d := d) (k := k) rfl
    (first | lia | omega)
  · have e : (Wd.str (.num true d k)).length = k + 4 := negf_len (d := d) (k := k) rfl
    (first | lia | omega)
theorem lenW_meant (f a b : Nat) : lenW (meantW f a b) ≤ 80 := by
  have h0 := lenW_le (n := 25) (List.zipWith Wd.nam (ksN f 10) [a, b]) fun w hw => (wd_len (meant_ok f a b w (by unfold meantW; simp only [List.mem_append]; exact .inl (.inl (.inl hw))))).2
  have hl : (List.zipWith Wd.nam (ksN f 10) [a, b]).length ≤ 2 := by rw [List.length_zipWith]; simp; (first | lia | omega)
  have h1 : lenW (hW f) ≤ 11 := by
    unfold hW
    split
    · have := numW_len false ([1, 2, 4, 8].getD (highN f % 4) 0) (highN f / 4)
      have e : ∀ w, lenW [w] = w.str.length := fun w => by unfold lenW; simp
      rw [e]; (first | lia | omega)
    · decide
  have h2 : lenW (tW f) ≤ 12 := by
    unfold tW
    have e : ∀ w, lenW [w] = w.str.length := fun w => by unfold lenW; simp
    split
    · rw [e]
      split
      · exact numW_len _ _ _
      · exact numW_len _ _ _
    · decide
  have h3 : lenW (zW f) ≤ 4 := by
    unfold zW
    have e : ∀ w, lenW [w] = w.str.length := fun w => by unfold lenW; simp
    split
    · rw [e]; exact numW_len _ _ _
    · decide
  unfold meantW
  rw [lenW_app, lenW_app, lenW_app]
  (first | lia | omega)
theorem turn_len {α : Type} (l : List α) (j : Nat) : (turnP l j).length = l.length := (turn_perm l j).length_eq
theorem turn_ok (f a b j : Nat) : ∀ w ∈ turnP (meantW f a b) j, w.ok := fun w hw => meant_ok f a b w ((turn_perm _ j).mem_iff.mp hw)
theorem pair_ok {ws : List Wd} (h : ∀ w ∈ ws, w.ok) : ∀ p ∈ ws.map Wd.pair, 0 < p.1.length ∧ p.1.length ≤ 25 ∧ ∀ c ∈ ltr p.1, okC c = true := by
  intro p hp
  obtain ⟨w, hw, rfl⟩ := List.mem_map.mp hp
  exact ⟨(wd_len (h w hw)).1, (wd_len (h w hw)).2, wd_chars (h w hw)⟩
theorem pair_strs (ws : List Wd) : (ws.map Wd.pair).map (·.1) = ws.map Wd.str := by rw [List.map_map]; rfl
theorem pair_lens (ws : List Wd) : ((ws.map Wd.pair).map fun p => p.1.length).sum = lenW ws := by rw [List.map_map]; rfl
theorem ok_strs {ws : List Wd} (h : ∀ w ∈ ws, w.ok) : okStrs (ws.map Wd.str) := by
  intro x hx
  obtain ⟨w, hw, rfl⟩ := List.mem_map.mp hx
  exact str_ok (wd_chars (h w hw))
theorem plain_fits (n3 f a b j : Nat) : (plainL n3 0 ((turnP (meantW f a b) j).map Wd.pair)).length ≤ 100 := by
  have h1 := plain_len2 n3 ((turnP (meantW f a b) j).map Wd.pair) 0
  have h2 := lenW_meant f a b
  have h3 := (meant_len f a b).2
  rw [pair_lens, lenW_turn, List.length_map, turn_len] at h1
  (first | lia | omega)
theorem highS_len : ∀ k, k < 32 → (highS k).length ≤ 70 := by decide +kernel
theorem topS_len : ∀ t, t < 5 → (topS t).length ≤ 70 := by decide +kernel
theorem drawn_fits (f : Nat) : ((drawnP f).map (·.length)).sum + (drawnP f).length ≤ 1048576 := by
  have hk := ks_two f 10 (by decide)
  have h1 := hX_len f
  have h2 := tX_len f
  refine join_fits (fun x hx => ?_) ?_
  · unfold drawnP at hx
    rcases List.mem_append.mp hx with hx | hx
    · unfold drawnP0 at hx
      rcases List.mem_append.mp hx with hx | hx
      · rcases List.mem_append.mp hx with hx | hx
        · obtain ⟨k, hk, rfl⟩ := List.mem_map.mp hx
          exact flagName_len (by have := ks_lt hk; (first | lia | omega))
        · unfold hX at hx
          split at hx
          · rw [List.mem_singleton.mp hx]; exact highS_len _ (by assumption)
          · cases hx
      · unfold tX at hx
        split at hx
        · rw [List.mem_singleton.mp hx]; exact topS_len _ (top_lt f)
        · cases hx
    · unfold zX at hx
      split at hx
      · rw [List.mem_singleton.mp hx]; decide +kernel
      · cases hx
  · have h3 : (zX (drawnP0 f)).length ≤ 1 := by unfold zX; split <;> simp
    unfold drawnP
    rw [List.length_append]
    have e : (drawnP0 f).length = (ksN f 10).length + (hX f).length + (tX f).length := by unfold drawnP0; rw [List.length_append, List.length_append, List.length_map]
    (first | lia | omega)
theorem drawnW_small (f : Nat) : -100000000000 ≤ drawnW f ∧ drawnW f ≤ 100000000000 := by
  have h := sumP_lt (bsF f) 0 (by decide) (bs_sorted f) (bs_lt f)
  have ht := top_lt f
  rw [drawnW_is]
  (first | lia | omega)
theorem nums_five (ns : List Int) : ∃ f n1 n2 n3 n4, numsL ns = [f, n1, n2, n3, n4] ∧ n1 < 1000000 ∧ n2 < 1000000 ∧ n4 < 1000000 := by
  have hl := nums_len ns
  have hlt := nums_lt ns
  generalize numsL ns = l at hl hlt
  match l, hl, hlt with
  | [f, n1, n2, n3, n4], _, hlt => exact ⟨f, n1, n2, n3, n4, rfl, hlt _ (.tail _ (.head _)), hlt _ (.tail _ (.tail _ (.head _))), hlt _ (.tail _ (.tail _ (.tail _ (.tail _ (.head _)))))⟩
theorem num_get {vs : Array Value} {l : List Nat} (h : IntsAre vs.toList (l.map fun (n : Nat) => (n : Int))) {i n : Nat} (hn : l[i]? = some n) : ∃ t, vs[((i : Nat) : Int).toNat]? = some (.int (n : Nat) t) := by
  obtain ⟨t, ht⟩ := ints_at h (i := i) (x := (n : Int)) (by rw [List.getElem?_map, hn]; rfl)
  exact ⟨t, by rw [Int.toNat_natCast, ← Array.getElem?_toList]; exact ht⟩
end
-- WL15
section
set_option maxHeartbeats 4000000 in
theorem law_plain0 {w : World} {s s₀ : Shared} {A : Around} {Q : Flow → Shared → Prop} {h₀ : Heap} {L fa : Addr} {cd : Value} {mg mb m : PySem.Str → Option Value} {news0 : List (Addr × Obj)} (T : Top qv (looseW qv looseX) (ExcName.means s₀.heap) mg mb h₀) (GL : GLt mg mb h₀) (KX : (kF w.params).In h₀) (g : GF w h₀)
    (F : Fr h₀ L s.heap m) (N : News h₀ L s.heap news0) (hA : A.depth ≤ 370) (hU : A.units ≤ 60) (hh : A.handled = none) 
    (rest : ∀ h tk t, Fr h₀ L h (fun z => if z = (PySem.Str.ofString "plain") then some (.str (sL []) t) else m z) → News h₀ L h news0 → Q .next { s with heap := h, toks := tk }) :
    wpAny (model pw w) (A.deeper (envOfC (PySem.Str.ofString "law") (fdS 32) L fa cd)) (exec ((fdB 32).getD 4 dStmt) (envOfC (PySem.Str.ofString "law") (fdS 32) L fa cd)) Q (fun _ _ => False) s := by
  conv => pattern List.getD (fdB 32) _ _; whnf
  conv => pattern (occs := *) fdS 32; all_goals whnf
  w_on
  wrow_steps
  rename Fr _ _ _ _ => Fe
  rename News _ _ _ _ => Ne
  exact rest _ _ _ Fe Ne
set_option maxHeartbeats 4000000 in
theorem law_found0 {w : World} {s s₀ : Shared} {A : Around} {Q : Flow → Shared → Prop} {h₀ : Heap} {L fa : Addr} {cd : Value} {mg mb m : PySem.Str → Option Value} {news0 : List (Addr × Obj)} (T : Top qv (looseW qv looseX) (ExcName.means s₀.heap) mg mb h₀) (GL : GLt mg mb h₀) (KX : (kF w.params).In h₀) (g : GF w h₀)
    (F : Fr h₀ L s.heap m) (N : News h₀ L s.heap news0) (hA : A.depth ≤ 370) (hU : A.units ≤ 60) (hh : A.handled = none) 
    (rest : ∀ h tk t, Fr h₀ L h (fun z => if z = (PySem.Str.ofString "found") then some (.int 0 t) else m z) → News h₀ L h news0 → Q .next { s with heap := h, toks := tk }) :
    wpAny (model pw w) (A.deeper (envOfC (PySem.Str.ofString "law") (fdS 32) L fa cd)) (exec ((fdB 32).getD 9 dStmt) (envOfC (PySem.Str.ofString "law") (fdS 32) L fa cd)) Q (fun _ _ => False) s := by
  conv => pattern List.getD (fdB 32) _ _; whnf
  conv => pattern (occs := *) fdS 32; all_goals whnf
  w_on
  wrow_steps
  rename Fr _ _ _ _ => Fe
  rename News _ _ _ _ => Ne
  exact rest _ _ _ Fe Ne
set_option maxHeartbeats 4000000 in
theorem law_paid0 {w : World} {s s₀ : Shared} {A : Around} {Q : Flow → Shared → Prop} {h₀ : Heap} {L fa : Addr} {cd : Value} {mg mb m : PySem.Str → Option Value} {news0 : List (Addr × Obj)} (T : Top qv (looseW qv looseX) (ExcName.means s₀.heap) mg mb h₀) (GL : GLt mg mb h₀) (KX : (kF w.params).In h₀) (g : GF w h₀)
    (F : Fr h₀ L s.heap m) (N : News h₀ L s.heap news0) (hA : A.depth ≤ 370) (hU : A.units ≤ 60) (hh : A.handled = none) 
    (rest : ∀ h tk D, Fr h₀ L h (fun z => if z = (PySem.Str.ofString "paid") then some (.ref D) else m z) → News h₀ L h ((D, lstO #[] 0) :: news0) → (∀ p ∈ news0, (@Ne Nat p.1 D)) → Q .next { s with heap := h, toks := tk }) :
    wpAny (model pw w) (A.deeper (envOfC (PySem.Str.ofString "law") (fdS 32) L fa cd)) (exec ((fdB 32).getD 10 dStmt) (envOfC (PySem.Str.ofString "law") (fdS 32) L fa cd)) Q (fun _ _ => False) s := by
  conv => pattern List.getD (fdB 32) _ _; whnf
  conv => pattern (occs := *) fdS 32; all_goals whnf
  w_on
  wrow_steps
  rename Fr _ _ _ _ => Fe
  rename News _ _ _ _ => Ne
  refine rest _ _ _ Fe Ne ?_
  exact fun p hp => Nat.ne_of_lt (by apply_assumption; exact hp)
end
-- WBody
section
noncomputable def lawG (k : Nat) : Stmt := (fdB 32).getD k dStmt
theorem fdB32 : fdB 32 = [lawG 0, lawG 1, lawG 2, lawG 3, lawG 4, lawG 5, lawG 6, lawG 7, lawG 8, lawG 9, lawG 10, lawG 11, lawG 12] := by kernel_rfl
theorem News.sub {h₀ h : Heap} {L : Addr} {a b : List (Addr × Obj)} (N : News h₀ L h a) (hs : ∀ p ∈ b, p ∈ a) : News h₀ L h b := fun p hp => N p (hs p hp)
theorem pairs_filter {h₀ h : Heap} {L c : Addr} {oc : Obj} {vv : Option Value} {news ts : List (Addr × Obj)} (N : News h₀ L h news) (hc : (c, oc) ∈ news) (hoc : oc.data = .cell vv) (hts : ∀ p ∈ ts, p ∈ news)
    {ps : List (PySem.Str × Int)} {vs : List Value} (hP : Paired (PairIn ts) ps vs) : Paired (PairIn (ts.filter fun p => p.1 != c)) ps vs := by
  induction hP with
  | nil => exact .nil
  | cons hd _ ih =>
    refine .cons ?_ ih
    obtain ⟨a, t, u, e, hm⟩ := hd
    refine ⟨a, t, u, e, List.mem_filter.mpr ⟨hm, ?_⟩⟩
    have hne : a ≠ c := ne_objs N (hts _ hm) hc (fun q => by rw [← q] at hoc; cases hoc)
    simp only [bne_iff_ne, ne_eq]
    exact hne
theorem list_ne_cell {vs : Array Value} {k : Nat} {oc : Obj} {vv : Option Value} (hoc : oc.data = .cell vv) : lstO vs k ≠ oc := fun q => by rw [← q] at hoc; cases hoc
set_option maxHeartbeats 4000000 in
theorem law_body {w : World} {s s₀ : Shared} {A : Around} {Q : Flow → Shared → Prop} {h₀ : Heap} {L fa : Addr} {cd : Value} {mg mb m : PySem.Str → Option Value} {a : Addr} {vs : List Value} {ns : List Int} {oc : Obj} {vv : Option Value}
    (T : Top qv (looseW qv looseX) (ExcName.means s₀.heap) mg mb h₀) (GL : GLt mg mb h₀) (KX : (kF w.params).In h₀) (g : GF w h₀) (F : Fr h₀ L s.heap m) (N : News h₀ L s.heap [(L + 1, oc)]) (hA : A.depth ≤ 370) (hU : A.units ≤ 60) (hh : A.handled = none)
    (hoc : oc.data = .cell vv) (hl : h₀.IsList a vs.toArray) (hz : vs.toArray.size ≤ sizeLine) (hi : IntsAre vs ns) (hn : ns.length ≤ 63) (ms : m (PySem.Str.ofString "script") = some (.ref a))
    (rest : ∀ h tk m', Fr h₀ L h m' → Q (.ret (.bool true)) { s with heap := h, toks := tk }) :
    wpAny (model pw w) (A.deeper (envOfC (PySem.Str.ofString "law") (fdS 32) L fa cd)) (execs (fdB 32) (envOfC (PySem.Str.ofString "law") (fdS 32) L fa cd)) Q (fun _ _ => False) s := by
  have e0 : execs (fdB 32) (envOfC (PySem.Str.ofString "law") (fdS 32) L fa cd) = execs [lawG 0, lawG 1, lawG 2, lawG 3, lawG 4, lawG 5, lawG 6, lawG 7, lawG 8, lawG 9, lawG 10, lawG 11, lawG 12] (envOfC (PySem.Str.ofString "law") (fdS 32) L fa cd) := congrArg (fun l => execs l (envOfC (PySem.Str.ofString "law") (fdS 32) L fa cd)) fdB32
  rw [e0]
  clear e0
  refine wpAny_execs_cons ?_
  refine law_numbers (s := ⟨_, _, _, _, _⟩) (L := L) (fa := fa) (cd := cd) T GL KX g F N hA hU hh hl hz hi hn ms ?_
  rintro h1 tk1 D ws F1 N1 hI
  obtain ⟨f, n1, n2, n3, n4, eN, hn1, hn2, hn4⟩ := nums_five ns
  rw [eN] at hI
  refine wpAny_execs_cons ?_
  refine law_draw (s := ⟨_, _, _, _, _⟩) (L := L) (fa := fa) (cd := cd) (a := D) (vsA := ws) (cA := 0) (f := f) (n1 := n1) (n2 := n2) (n3 := n3) (n4 := n4) T GL KX g F1 N1 hA hU hh (.head _) hI hn1 hn2 rfl ?_
  rintro h2 tk2 tw P vsP cP Mn vsM cM ts F2 N2 hSP hPM
  have hPM' := pairs_filter N2 (.tail _ (.tail _ (List.mem_append.mpr (.inr (.tail _ (.head _)))))) hoc (fun p hp => .tail _ (.tail _ (List.mem_append.mpr (.inl hp)))) hPM
  have hts : ∀ p ∈ ts.filter (fun p => p.1 != (L + 1)), p.1 ≠ L + 1 := fun p hp => by simpa using (List.mem_filter.mp hp).2
  have N3 : News h₀ L h2 ((D, lstO ws 0) :: (Mn, lstO vsM cM) :: (P, lstO vsP cP) :: (L + 1, oc) :: ts.filter (fun p => p.1 != (L + 1))) := News.sub N2 fun p hp => by
    simp only [List.mem_cons, List.mem_append] at hp ⊢
    rcases hp with q | q | q | q | q
    · exact .inr (.inr (.inr (.inl q)))
    · exact .inr (.inl q)
    · exact .inl q
    · exact .inr (.inr (.inr (.inr (.inl q))))
    · exact .inr (.inr (.inl (List.mem_filter.mp q).1))
  clear N2 hPM N1 N
  generalize ts.filter (fun p => p.1 != (L + 1)) = tf at hPM' hts N3
  have hlenM := meant_len f n1 n2
  have hszM : vsM.size = (meantW f n1 n2).length := by rw [paired_size hPM', ← meant_pair, List.length_map]
  have g3 := num_get hI (i := 3) (n := n3) rfl
  have g4 := num_get hI (i := 4) (n := n4) rfl
  obtain ⟨t3, g3⟩ := g3
  obtain ⟨t4, g4⟩ := g4
  refine wpAny_execs_cons ?_
  refine law_turn (s := ⟨_, _, _, _, _⟩) (L := L) (fa := fa) (cd := cd) (a := D) (Mn := Mn) (vsA := ws) (vsM := vsM) (cA := 0) (cM := cM) (n3 := n3) (k := (meantW f n1 n2).length) T GL KX g F2 N3 hA hU hh g3 hszM hlenM.1 (by (first | lia | omega)) rfl rfl ?_
  rintro h4 tk4 t4' F4 N4
  have N5 : News h₀ L h4 ((Mn, lstO vsM cM) :: (D, lstO ws 0) :: (P, lstO vsP cP) :: (L + 1, oc) :: tf) := News.sub N4 fun p hp => by
    simp only [List.mem_cons] at hp ⊢
    rcases hp with q | q | q
    · exact .inr (.inl q)
    · exact .inl q
    · exact .inr (.inr q)
  clear N4 N3
  have hz10 : vsM.size ≤ 10 := by (first | lia | omega)
  refine wpAny_execs_cons ?_
  refine law_turned (s := ⟨_, _, _, _, _⟩) (L := L) (fa := fa) (cd := cd) (Mn := Mn) (vsM := vsM) (cM := cM) (j := n3 % (meantW f n1 n2).length) T GL KX g F4 N5 hA hU hh (Nat.le_trans hz10 (by decide)) hz10 rfl rfl ?_
  rintro h6 tk6 Tn F6 N6
  have hPT := turn_paired hPM' (n3 % (meantW f n1 n2).length)
  rw [← meant_pair, ← turn_map] at hPT
  have hok := turn_ok f n1 n2 (n3 % (meantW f n1 n2).length)
  have hlen := turn_len (meantW f n1 n2) (n3 % (meantW f n1 n2).length)
  have hfit := plain_fits n3 f n1 n2 (n3 % (meantW f n1 n2).length)
  have hfound := found_drawn f n1 n2 (n3 % (meantW f n1 n2).length)
  generalize n3 % (meantW f n1 n2).length = j at F6 N6 hPT hok hlen hfit hfound
  generalize slicePick vsM (some (j : Int)) none none ++ slicePick vsM none (some (j : Int)) none = vsT at N6 hPT
  generalize turnP (meantW f n1 n2) j = wds at hPT hok hlen hfit hfound
  have hpo := pair_ok hok
  have hstr := pair_strs wds
  have hpaid := paid_filter wds
  have hwl : wds.length ≤ 5 := by (first | lia | omega)
  have hpl : (wds.map Wd.pair).length ≤ 5 := by rw [List.length_map]; exact hwl
  generalize hps : wds.map Wd.pair = ps at hPT hfit hpo hstr hpaid hpl
  refine wpAny_execs_cons ?_
  refine law_plain0 (s := ⟨_, _, _, _, _⟩) (L := L) (fa := fa) (cd := cd) T GL KX g F6 N6 hA hU hh ?_
  rintro h7 tk7 t7 F7 N7
  clear N6 N5
  refine wpAny_execs_cons ?_
  refine law_plain (s := ⟨_, _, _, _, _⟩) (L := L) (fa := fa) (cd := cd) (ts := tf) (a := D) (Tn := Tn) (vsA := ws) (vsT := vsT) (cA := 0) (cT := 0) (n3 := n3) (ps := ps) T GL KX g F7 N7 hA hU hh g3 hPT (by (first | lia | omega)) (fun p hp => Nat.le_trans (hpo p hp).2.1 (by decide)) (.tail _ (.tail _ (.head _))) (.head _) (fun p hp => .tail _ (.tail _ (.tail _ (.tail _ (.tail _ hp))))) rfl rfl rfl ?_
  rintro h8 tk8 M8 t8 F8 N8 mp8 hq8
  have mn8 : M8 (PySem.Str.ofString "numbers") = some (.ref D) := (hq8 _ (by decide) (by decide)).trans rfl
  have mw8 : M8 (PySem.Str.ofString "number") = some (.int (drawnW f) tw) := (hq8 _ (by decide) (by decide)).trans rfl
  have mr8 : M8 (PySem.Str.ofString "printed") = some (.ref P) := (hq8 _ (by decide) (by decide)).trans rfl
  have mt8 : M8 (PySem.Str.ofString "turned") = some (.ref Tn) := (hq8 _ (by decide) (by decide)).trans rfl
  clear hq8 N7
  have hch := plain_chars n3 ps 0 (fun p hp => (hpo p hp).2.2)
  have hheard := heard_plain (n3 := n3) (seed := n4) (fun p hp => ⟨(hpo p hp).1, (hpo p hp).2.2⟩) hch
  have htl := typed_len (plainL n3 0 ps) 0 n4
  refine wpAny_execs_cons ?_
  refine law_heard (s := ⟨_, _, _, _, _⟩) (L := L) (fa := fa) (cd := cd) (a := D) (vsA := ws) (cA := 0) (n4 := n4) (l := plainL n3 0 ps) T GL KX g F8 N8 hA hU hh g4 (.tail _ (.tail _ (.head _))) (by rw [sL_len]; exact hfit) hn4 (fun c hc => okOrSep_le (hch c hc)) (by rw [sL_len]; (first | lia | omega)) (typed_b3 _ _ _ hch) mn8 mp8 ?_
  rintro h9 tk9 H vsH cH F9 N9 hSH
  rw [hheard, hstr] at hSH
  clear N8
  have hsm := drawnW_small f
  refine wpAny_execs_cons ?_
  refine law_check (s := ⟨_, _, _, _, _⟩) (L := L) (fa := fa) (cd := cd) (ts := tf) (P := P) (H := H) (Tn := Tn) (vsP := vsP) (vsH := vsH) (vsT := vsT) (cP := cP) (cH := cH) (cT := 0) (W := drawnW f) (ps := ps) T GL KX g F9 N9 hA hU hh hsm.1 hsm.2 (pretty_drawn f) hSP (drawn_fits f) hSH hPT hstr.symm (ok_strs hok) (by (first | lia | omega)) (.tail _ (.tail _ (.tail _ (.tail _ (.head _))))) (.head _) (.tail _ (.head _)) (fun p hp => .tail _ (.tail _ (.tail _ (.tail _ (.tail _ (.tail _ hp)))))) mw8 mr8 rfl mt8 ?_
  rintro h10 tk10 F10 N10
  clear N9
  refine wpAny_execs_cons ?_
  refine law_shelf (s := ⟨_, _, _, _, _⟩) (L := L) (fa := fa) (cd := cd) T GL KX g F10 N10 hA hU hh ?_
  rintro h11 tk11 Sh vsS F11 N11 hSS
  clear N10
  refine wpAny_execs_cons ?_
  refine law_found0 (s := ⟨_, _, _, _, _⟩) (L := L) (fa := fa) (cd := cd) T GL KX g F11 N11 hA hU hh ?_
  rintro h12 tk12 t12 F12 N12
  clear N11
  refine wpAny_execs_cons ?_
  refine law_paid0 (s := ⟨_, _, _, _, _⟩) (L := L) (fa := fa) (cd := cd) T GL KX g F12 N12 hA hU hh ?_
  rintro h13 tk13 Pd F13 N13 hPd
  clear N12
  have N14 : News h₀ L h13 ((L + 1, oc) :: (Pd, lstO #[] 0) :: (Sh, lstO vsS 10) :: (H, lstO vsH cH) :: (Tn, lstO vsT 0) :: (Mn, lstO vsM cM) :: (D, lstO ws 0) :: (P, lstO vsP cP) :: tf) := News.sub N13 fun p hp => by
    simp only [List.mem_cons] at hp ⊢
    rcases hp with q | q | q | q | q | q | q | q | q <;> simp [q]
  have hlP : ∀ p ∈ (Sh, lstO vsS 10) :: (H, lstO vsH cH) :: (Tn, lstO vsT 0) :: (Mn, lstO vsM cM) :: (D, lstO ws 0) :: (P, lstO vsP cP) :: tf, p.1 ≠ Pd := fun p hp => hPd p (by
    simp only [List.mem_cons] at hp ⊢
    rcases hp with q | q | q | q | q | q | q <;> simp [q])
  have hcP : (@Ne Nat (L + 1) Pd) := hPd (L + 1, oc) (by simp)
  have hlc : ∀ p ∈ (Sh, lstO vsS 10) :: (H, lstO vsH cH) :: (Tn, lstO vsT 0) :: (Mn, lstO vsM cM) :: (D, lstO ws 0) :: (P, lstO vsP cP) :: tf, p.1 ≠ L + 1 := fun p hp => by
    have hm : p ∈ (L + 1, oc) :: (Pd, lstO #[] 0) :: (Sh, lstO vsS 10) :: (H, lstO vsH cH) :: (Tn, lstO vsT 0) :: (Mn, lstO vsM cM) :: (D, lstO ws 0) :: (P, lstO vsP cP) :: tf := .tail _ (.tail _ hp)
    have key : ∀ (vs : Array Value) (k : Nat), p.2 = lstO vs k → p.1 ≠ L + 1 := fun vs k e => ne_objs N14 hm (.head _) (by rw [e]; exact list_ne_cell hoc)
    simp only [List.mem_cons] at hp
    rcases hp with q | q | q | q | q | q | q
    · exact key _ _ (by rw [q])
    · exact key _ _ (by rw [q])
    · exact key _ _ (by rw [q])
    · exact key _ _ (by rw [q])
    · exact key _ _ (by rw [q])
    · exact key _ _ (by rw [q])
    · exact hts p q
  clear N13
  refine wpAny_execs_cons ?_
  refine law_words (s := ⟨_, _, _, _, _⟩) (L := L) (fa := fa) (cd := cd) (Pd := Pd) (Sh := Sh) (H := H) (vsS := vsS) (vsH := vsH) (cS := 10) (cH := cH) (ws := wds) T GL KX g F13 N14 hA hU hh hok (by (first | lia | omega)) hoc hcP hlc hlP hSS hSH (.head _) (.tail _ (.head _)) rfl rfl rfl rfl ?_
  rintro h15 tk15 M15 vsD cD oc15 vv15 F15 N15 hoc15 hID ⟨tf15, mf15⟩ hq15
  refine wpAny_execs_cons ?_
  refine law_ret (s := ⟨_, _, _, _, _⟩) (L := L) (fa := fa) (cd := cd) (ts := tf) (Pd := Pd) (Tn := Tn) (vsD := vsD) (vsT := vsT) (cD := cD) (cT := 0) (W := drawnW f) (ps := ps) T GL KX g F15 N15 hA hU hh hfound hID hPT hpaid (by (first | lia | omega)) (.tail _ (.head _)) (.tail _ (.tail _ (.tail _ (.tail _ (.head _))))) (fun p hp => .tail _ (.tail _ (.tail _ (.tail _ (.tail _ (.tail _ (.tail _ (.tail _ hp)))))))) ((hq15 _ (by decide) (by decide) (by decide)).trans mw8) ((hq15 _ (by decide) (by decide) (by decide)).trans rfl) mf15 ((hq15 _ (by decide) (by decide) (by decide)).trans mt8) ?_
  rintro h16 tk16 F16
  exact rest _ _ _ F16
end
-- WFin
section
set_option maxHeartbeats 4000000 in
theorem the_walk : WalkO qv looseX XPx YPx rLaw.toRowW dLaw [] fun f vs => PySem.call f vs := by
  w_on
  k_fill
  intro w s₀ s₁ mg mb G Y fa o pm cd doc dV kV ho hd hcd hD hmg hg args vals as hpre hlay hrd hwl hlo
  have KX := Y
  have X := (Ground.X G).1
  have V := (Ground.X G).2
  have GL := glob_more (Ground.glob G (by decide +kernel) (by decide +kernel)) V
  refine Ground.open G ?_
  intro T B D TE TW
  try (refine guard_noD D (by decide +kernel) ?_; clear D)
  obtain ⟨_, _, M⟩ := bmod_of_top T
  have TA := at_of_top T
  try (obtain ⟨_, _, he, B0⟩ := based_of_top T rfl hmg ho hd; have he' : cd = _ := he; subst he'; clear he)
  clear hmg
  wrow_args hpre hlay hrd hwl hlo
  first | refine callC_kw (enter_call ?_) | refine enter_call ?_ | refine callC_kw (enter_callW ?_) | refine enter_callW ?_ | w_how
  w_top on
  try refine codeAny_mono ?_ (fun _ _ g => GoodW.toG g)
  have K0 := below_caller (Top.heap T)
  w_call any ho hd hcd hD T F
  clear hd TA
  k_drop
  rename Fr _ _ _ _ => F
  rename News _ _ _ _ => N
  rename Heap.IsList _ _ _ => hL
  rename IntsAre _ _ => hI
  rename _ = Data.cell _ => hoc
  rename ¬ _ < _ => hle
  refine wpAny_mono (Q := fun f s' => ∃ h tk m', f = Flow.ret (.bool true) ∧ s' = ({ heap := h, gens := s₁.gens, drawn := s₁.drawn, toks := tk, os := s₁.os } : Shared) ∧ Fr s₁.heap s₁.heap.objs.size h m') (law_body (s := ⟨_, _, _, _, _⟩) (L := s₁.heap.objs.size) (fa := fa) (by assumption) (by assumption) KX ⟨s₀, mg, mb, G, Y⟩ F N (A := callerA) (by decide) (by decide) rfl hoc hL ?hz hI ?hn ?ms ?rest) ?_ ?_
  case hz =>
    have e := ints_len hI
    rw [List.size_toArray, e]
    exact Nat.le_trans (by (first | lia | omega) : _ ≤ 63) (by decide)
  case hn => (first | lia | omega)
  case ms => with_unfolding_all rfl
  case rest => exact fun h tk m' F' => ⟨h, tk, m', rfl, rfl, F'⟩
  · rintro f s' ⟨h, tk, m', rfl, rfl, F'⟩
    clear F
    dsimp only
    first
      | wrow_close
      | (w_end; trace_state; exact goodW_bool (by assumption) (by assumption) (raisesW_false (by wrow_none_raised)) (postW_of rfl rfl))
  · exact fun _ _ h => h.elim
end
end
end
end
end
end Mine
set_option maxRecDepth 100000 in
set_option maxHeartbeats 8000000 in
theorem PySem.Challenge.cw_ta0077_01_holds : PySem.Challenge.rw_ta0077_01.Holds := by
  exact Mine.law_of_walk Mine.the_walk
