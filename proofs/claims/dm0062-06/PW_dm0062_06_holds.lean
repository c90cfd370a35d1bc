import PyProof.Rows.All
import Wide.All
import OpenK.AllK
import Wide.FinOn
import PySem.Challenge.RW_dm0062_06
set_option Elab.async false
section -- NewQ
open PySem PySem.W
namespace Mine
set_option maxRecDepth 100000
set_option maxHeartbeats 0
noncomputable def anyL (p : Nat → Bool) (l : List Nat) : Nat → Bool := @List.rec Nat (fun _ => Nat → Bool) (fun _ => false) (fun a _ ih n => @Nat.rec (fun _ => Bool) false (fun n' _ => @Bool.rec (fun _ => Bool) (ih n') true (p a)) n) l
theorem anyL_iff (p : Nat → Bool) : ∀ (l : List Nat) (n : Nat), anyL p l n = true ↔ ∃ i, i < n ∧ ∃ h : i < l.length, p l[i] = true
  | [], n => by
    constructor
    · intro h; exact absurd (show false = true from h) Bool.false_ne_true
    · rintro ⟨i, _, h, _⟩; exact absurd h (Nat.not_lt_zero _)
  | a :: l, 0 => by
    constructor
    · intro h; exact absurd (show false = true from h) Bool.false_ne_true
    · rintro ⟨i, h, _⟩; exact absurd h (Nat.not_lt_zero _)
  | a :: l, n + 1 => by
    show @Bool.rec (fun _ => Bool) (anyL p l n) true (p a) = true ↔ _
    cases e : p a with
    | true => exact ⟨fun _ => ⟨0, Nat.succ_pos _, Nat.succ_pos _, e⟩, fun _ => rfl⟩
    | false =>
      show anyL p l n = true ↔ _
      rw [anyL_iff p l n]
      constructor
      · rintro ⟨i, h1, h2, h3⟩; exact ⟨i + 1, Nat.succ_lt_succ h1, Nat.succ_lt_succ h2, h3⟩
      · rintro ⟨i, h1, h2, h3⟩
        cases i with
        | zero => exact absurd (show p a = true from h3) (by rw [e]; exact Bool.false_ne_true)
        | succ i => exact ⟨i, Nat.lt_of_succ_lt_succ h1, Nat.lt_of_succ_lt_succ h2, h3⟩
abbrev AnyT := (as : Array Nat) → (p : Nat → Bool) → (start : Nat) → (stop : Nat) → Bool
noncomputable def anyA : AnyT := fun as p i j => @Nat.rec (fun _ => Bool) (anyL p as.toList j) (fun _ _ => @Array.any Nat as p i j) i
theorem anyA_eq : (fun (as : Array Nat) (p : Nat → Bool) (i j : Nat) => @Array.any Nat as p i j) = anyA := by
  funext as p i j
  cases i with
  | succ i => rfl
  | zero =>
    show @Array.any Nat as p 0 j = anyL p as.toList j
    rw [Bool.eq_iff_iff, anyL_iff, Array.any_iff_exists]
    constructor
    · rintro ⟨i, h1, _, h2, h3⟩; exact ⟨i, h2, h1, h3⟩
    · rintro ⟨i, h1, h2, h3⟩; exact ⟨i, h2, Nat.zero_le _, h1, h3⟩
inductive Same : Builtin → Builtin → Type 1
  | refl (a : Builtin) : Same a a
theorem Same.eq : ∀ {a b : Builtin}, Same a b → a = b
  | _, _, .refl _ => rfl
noncomputable def newS : (F : AnyT → Builtin) ×' Same (F (@Array.any Nat)) PySem.W.Fast.tw4202317264376624991 := ⟨_, by
  delta PySem.W.Fast.tw4202317264376624991
  generalize @Array.any Nat = g
  exact Same.refl _⟩
noncomputable def newQ : Builtin := newS.1 anyA
theorem newQ_eq : newQ = PySem.W.Fast.tw4202317264376624991 := by
  unfold newQ
  rw [← anyA_eq]
  exact newS.2.eq
noncomputable def tbQ (id : String) : Option Builtin := @Bool.rec (fun _ => Option Builtin) (PySem.W.Fast.tw14364793385576792824 id) (some newQ) (PySem.W.S.eqLit 29827186395103491166823348853 id)
theorem table_new : table "type.__new__" = some Builtin.«type.__new__» := by kernel_rfl
theorem tbQ_eq : treeTable = tbQ := by
  rw [PySem.W.Fast.te14364793385576792824]
  funext id
  show _ = @Bool.rec (fun _ => Option Builtin) (PySem.W.Fast.tw14364793385576792824 id) (some newQ) (PySem.W.S.eqLit 29827186395103491166823348853 id)
  cases e : PySem.W.S.eqLit 29827186395103491166823348853 id with
  | false => rfl
  | true =>
    have h1 : (id == "type.__new__") = true := (congrFun (PySem.W.S.eqLit_eq "type.__new__" 29827186395103491166823348853 (by decide +kernel)) id).trans e
    have h2 : id = "type.__new__" := by simpa using h1
    subst h2
    show _ = some newQ
    rw [newQ_eq, ← PySem.W.Fast.te14364793385576792824, ← PySem.W.Fast.te4202317264376624991, ← table_eq_tree]
    exact table_new
end Mine

end
section -- H6
open PySem PySem.W
set_option Elab.async false
namespace Mine
set_option maxRecDepth 100000
set_option maxHeartbeats 0
set_option linter.unusedVariables false
-- printed by Gen.lean for dm0062_06
noncomputable abbrev pw0 : Program := PySem.Challenge.pw_dm0062_06
theorem q0 : Nat.beq PySem.Challenge.pw_dm0062_06.main.body.length 12 = true := by k_qdec
noncomputable abbrev pw : Program := PySem.W.Fast.tw6093091360178755394
theorem pw_eq : pw0 = pw := PySem.W.Fast.te6093091360178755394
noncomputable def bd (p : Program) : List Stmt := p.main.body
noncomputable def sB : Option Stmt → List Stmt
  | some (.FunctionDef _ _ b _ _ _ _ _ _ _) => b
  | some (.ClassDef _ _ _ b _ _ _ _ _ _ _) => b
  | _ => []
noncomputable def sA : Option Stmt → Arguments
  | some (.FunctionDef _ a _ _ _ _ _ _ _ _) => a
  | _ => default
noncomputable def sS : Option Stmt → Scope
  | some (.FunctionDef _ _ _ _ _ _ s _ _ _) => s
  | _ => default
noncomputable def fb_0 (p : Program) : List Stmt := sB (bd p)[0]?
noncomputable def fa_0 (p : Program) : Arguments := sA (bd p)[0]?
noncomputable def fs_0 (p : Program) : Scope := sS (bd p)[0]?
noncomputable def fb_2 (p : Program) : List Stmt := sB (bd p)[2]?
noncomputable def fb_2_0 (p : Program) : List Stmt := sB (sB (bd p)[2]?)[0]?
noncomputable def fa_2_0 (p : Program) : Arguments := sA (sB (bd p)[2]?)[0]?
noncomputable def fs_2_0 (p : Program) : Scope := sS (sB (bd p)[2]?)[0]?
noncomputable def fb_2_1 (p : Program) : List Stmt := sB (sB (bd p)[2]?)[1]?
noncomputable def fa_2_1 (p : Program) : Arguments := sA (sB (bd p)[2]?)[1]?
noncomputable def fs_2_1 (p : Program) : Scope := sS (sB (bd p)[2]?)[1]?
noncomputable def fb_2_2 (p : Program) : List Stmt := sB (sB (bd p)[2]?)[2]?
noncomputable def fa_2_2 (p : Program) : Arguments := sA (sB (bd p)[2]?)[2]?
noncomputable def fs_2_2 (p : Program) : Scope := sS (sB (bd p)[2]?)[2]?
noncomputable def fb_2_3 (p : Program) : List Stmt := sB (sB (bd p)[2]?)[3]?
noncomputable def fa_2_3 (p : Program) : Arguments := sA (sB (bd p)[2]?)[3]?
noncomputable def fs_2_3 (p : Program) : Scope := sS (sB (bd p)[2]?)[3]?
noncomputable def fb_3 (p : Program) : List Stmt := sB (bd p)[3]?
noncomputable def fd_3 (p : Program) : Str := (docOf (fb_3 p)).getD Str.empty
noncomputable def fb_3_4 (p : Program) : List Stmt := sB (sB (bd p)[3]?)[4]?
noncomputable def fa_3_4 (p : Program) : Arguments := sA (sB (bd p)[3]?)[4]?
noncomputable def fs_3_4 (p : Program) : Scope := sS (sB (bd p)[3]?)[4]?
noncomputable def fd_3_4 (p : Program) : Str := (docOf (fb_3_4 p)).getD Str.empty
noncomputable def fb_3_5 (p : Program) : List Stmt := sB (sB (bd p)[3]?)[5]?
noncomputable def fa_3_5 (p : Program) : Arguments := sA (sB (bd p)[3]?)[5]?
noncomputable def fs_3_5 (p : Program) : Scope := sS (sB (bd p)[3]?)[5]?
noncomputable def fd_3_5 (p : Program) : Str := (docOf (fb_3_5 p)).getD Str.empty
noncomputable def fb_3_6 (p : Program) : List Stmt := sB (sB (bd p)[3]?)[6]?
noncomputable def fa_3_6 (p : Program) : Arguments := sA (sB (bd p)[3]?)[6]?
noncomputable def fs_3_6 (p : Program) : Scope := sS (sB (bd p)[3]?)[6]?
noncomputable def fd_3_6 (p : Program) : Str := (docOf (fb_3_6 p)).getD Str.empty
noncomputable def fb_3_8 (p : Program) : List Stmt := sB (sB (bd p)[3]?)[8]?
noncomputable def fa_3_8 (p : Program) : Arguments := sA (sB (bd p)[3]?)[8]?
noncomputable def fs_3_8 (p : Program) : Scope := sS (sB (bd p)[3]?)[8]?
noncomputable def fd_3_8 (p : Program) : Str := (docOf (fb_3_8 p)).getD Str.empty
noncomputable def fb_3_9 (p : Program) : List Stmt := sB (sB (bd p)[3]?)[9]?
noncomputable def fa_3_9 (p : Program) : Arguments := sA (sB (bd p)[3]?)[9]?
noncomputable def fs_3_9 (p : Program) : Scope := sS (sB (bd p)[3]?)[9]?
noncomputable def fb_3_10 (p : Program) : List Stmt := sB (sB (bd p)[3]?)[10]?
noncomputable def fa_3_10 (p : Program) : Arguments := sA (sB (bd p)[3]?)[10]?
noncomputable def fs_3_10 (p : Program) : Scope := sS (sB (bd p)[3]?)[10]?
noncomputable def fd_3_10 (p : Program) : Str := (docOf (fb_3_10 p)).getD Str.empty
noncomputable def fb_4 (p : Program) : List Stmt := sB (bd p)[4]?
noncomputable def fa_4 (p : Program) : Arguments := sA (bd p)[4]?
noncomputable def fs_4 (p : Program) : Scope := sS (bd p)[4]?
noncomputable def fb_5 (p : Program) : List Stmt := sB (bd p)[5]?
noncomputable def fd_5 (p : Program) : Str := (docOf (fb_5 p)).getD Str.empty
noncomputable def fb_5_1 (p : Program) : List Stmt := sB (sB (bd p)[5]?)[1]?
noncomputable def fa_5_1 (p : Program) : Arguments := sA (sB (bd p)[5]?)[1]?
noncomputable def fs_5_1 (p : Program) : Scope := sS (sB (bd p)[5]?)[1]?
noncomputable def fd_5_1 (p : Program) : Str := (docOf (fb_5_1 p)).getD Str.empty
noncomputable def fb_5_2 (p : Program) : List Stmt := sB (sB (bd p)[5]?)[2]?
noncomputable def fa_5_2 (p : Program) : Arguments := sA (sB (bd p)[5]?)[2]?
noncomputable def fs_5_2 (p : Program) : Scope := sS (sB (bd p)[5]?)[2]?
noncomputable def fd_5_2 (p : Program) : Str := (docOf (fb_5_2 p)).getD Str.empty
noncomputable def fb_5_3 (p : Program) : List Stmt := sB (sB (bd p)[5]?)[3]?
noncomputable def fa_5_3 (p : Program) : Arguments := sA (sB (bd p)[5]?)[3]?
noncomputable def fs_5_3 (p : Program) : Scope := sS (sB (bd p)[5]?)[3]?
noncomputable def fd_5_3 (p : Program) : Str := (docOf (fb_5_3 p)).getD Str.empty
noncomputable def fb_5_4 (p : Program) : List Stmt := sB (sB (bd p)[5]?)[4]?
noncomputable def fa_5_4 (p : Program) : Arguments := sA (sB (bd p)[5]?)[4]?
noncomputable def fs_5_4 (p : Program) : Scope := sS (sB (bd p)[5]?)[4]?
noncomputable def fd_5_4 (p : Program) : Str := (docOf (fb_5_4 p)).getD Str.empty
noncomputable def fb_5_5 (p : Program) : List Stmt := sB (sB (bd p)[5]?)[5]?
noncomputable def fa_5_5 (p : Program) : Arguments := sA (sB (bd p)[5]?)[5]?
noncomputable def fs_5_5 (p : Program) : Scope := sS (sB (bd p)[5]?)[5]?
noncomputable def fb_5_6 (p : Program) : List Stmt := sB (sB (bd p)[5]?)[6]?
noncomputable def fa_5_6 (p : Program) : Arguments := sA (sB (bd p)[5]?)[6]?
noncomputable def fs_5_6 (p : Program) : Scope := sS (sB (bd p)[5]?)[6]?
noncomputable def fd_5_6 (p : Program) : Str := (docOf (fb_5_6 p)).getD Str.empty
noncomputable def fb_5_7 (p : Program) : List Stmt := sB (sB (bd p)[5]?)[7]?
noncomputable def fa_5_7 (p : Program) : Arguments := sA (sB (bd p)[5]?)[7]?
noncomputable def fs_5_7 (p : Program) : Scope := sS (sB (bd p)[5]?)[7]?
noncomputable def fd_5_7 (p : Program) : Str := (docOf (fb_5_7 p)).getD Str.empty
noncomputable def fb_5_8 (p : Program) : List Stmt := sB (sB (bd p)[5]?)[8]?
noncomputable def fa_5_8 (p : Program) : Arguments := sA (sB (bd p)[5]?)[8]?
noncomputable def fs_5_8 (p : Program) : Scope := sS (sB (bd p)[5]?)[8]?
noncomputable def fd_5_8 (p : Program) : Str := (docOf (fb_5_8 p)).getD Str.empty
noncomputable def fb_5_9 (p : Program) : List Stmt := sB (sB (bd p)[5]?)[9]?
noncomputable def fa_5_9 (p : Program) : Arguments := sA (sB (bd p)[5]?)[9]?
noncomputable def fs_5_9 (p : Program) : Scope := sS (sB (bd p)[5]?)[9]?
noncomputable def fb_5_10 (p : Program) : List Stmt := sB (sB (bd p)[5]?)[10]?
noncomputable def fa_5_10 (p : Program) : Arguments := sA (sB (bd p)[5]?)[10]?
noncomputable def fs_5_10 (p : Program) : Scope := sS (sB (bd p)[5]?)[10]?
noncomputable def fd_5_10 (p : Program) : Str := (docOf (fb_5_10 p)).getD Str.empty
noncomputable def fb_5_11 (p : Program) : List Stmt := sB (sB (bd p)[5]?)[11]?
noncomputable def fa_5_11 (p : Program) : Arguments := sA (sB (bd p)[5]?)[11]?
noncomputable def fs_5_11 (p : Program) : Scope := sS (sB (bd p)[5]?)[11]?
noncomputable def fd_5_11 (p : Program) : Str := (docOf (fb_5_11 p)).getD Str.empty
noncomputable def fb_5_12 (p : Program) : List Stmt := sB (sB (bd p)[5]?)[12]?
noncomputable def fa_5_12 (p : Program) : Arguments := sA (sB (bd p)[5]?)[12]?
noncomputable def fs_5_12 (p : Program) : Scope := sS (sB (bd p)[5]?)[12]?
noncomputable def fd_5_12 (p : Program) : Str := (docOf (fb_5_12 p)).getD Str.empty
noncomputable def fb_6 (p : Program) : List Stmt := sB (bd p)[6]?
noncomputable def fa_6 (p : Program) : Arguments := sA (bd p)[6]?
noncomputable def fs_6 (p : Program) : Scope := sS (bd p)[6]?
noncomputable def fd_6 (p : Program) : Str := (docOf (fb_6 p)).getD Str.empty
noncomputable def fb_7 (p : Program) : List Stmt := sB (bd p)[7]?
noncomputable def fd_7 (p : Program) : Str := (docOf (fb_7 p)).getD Str.empty
noncomputable def fb_7_1 (p : Program) : List Stmt := sB (sB (bd p)[7]?)[1]?
noncomputable def fa_7_1 (p : Program) : Arguments := sA (sB (bd p)[7]?)[1]?
noncomputable def fs_7_1 (p : Program) : Scope := sS (sB (bd p)[7]?)[1]?
noncomputable def fd_7_1 (p : Program) : Str := (docOf (fb_7_1 p)).getD Str.empty
noncomputable def fb_7_2 (p : Program) : List Stmt := sB (sB (bd p)[7]?)[2]?
noncomputable def fa_7_2 (p : Program) : Arguments := sA (sB (bd p)[7]?)[2]?
noncomputable def fs_7_2 (p : Program) : Scope := sS (sB (bd p)[7]?)[2]?
noncomputable def fd_7_2 (p : Program) : Str := (docOf (fb_7_2 p)).getD Str.empty
noncomputable def fb_7_3 (p : Program) : List Stmt := sB (sB (bd p)[7]?)[3]?
noncomputable def fa_7_3 (p : Program) : Arguments := sA (sB (bd p)[7]?)[3]?
noncomputable def fs_7_3 (p : Program) : Scope := sS (sB (bd p)[7]?)[3]?
noncomputable def fd_7_3 (p : Program) : Str := (docOf (fb_7_3 p)).getD Str.empty
noncomputable def fb_7_4 (p : Program) : List Stmt := sB (sB (bd p)[7]?)[4]?
noncomputable def fa_7_4 (p : Program) : Arguments := sA (sB (bd p)[7]?)[4]?
noncomputable def fs_7_4 (p : Program) : Scope := sS (sB (bd p)[7]?)[4]?
noncomputable def fb_7_5 (p : Program) : List Stmt := sB (sB (bd p)[7]?)[5]?
noncomputable def fa_7_5 (p : Program) : Arguments := sA (sB (bd p)[7]?)[5]?
noncomputable def fs_7_5 (p : Program) : Scope := sS (sB (bd p)[7]?)[5]?
noncomputable def fd_7_5 (p : Program) : Str := (docOf (fb_7_5 p)).getD Str.empty
noncomputable def fb_7_6 (p : Program) : List Stmt := sB (sB (bd p)[7]?)[6]?
noncomputable def fa_7_6 (p : Program) : Arguments := sA (sB (bd p)[7]?)[6]?
noncomputable def fs_7_6 (p : Program) : Scope := sS (sB (bd p)[7]?)[6]?
noncomputable def fb_7_7 (p : Program) : List Stmt := sB (sB (bd p)[7]?)[7]?
noncomputable def fa_7_7 (p : Program) : Arguments := sA (sB (bd p)[7]?)[7]?
noncomputable def fs_7_7 (p : Program) : Scope := sS (sB (bd p)[7]?)[7]?
noncomputable def fd_7_7 (p : Program) : Str := (docOf (fb_7_7 p)).getD Str.empty
noncomputable def fb_9 (p : Program) : List Stmt := sB (bd p)[9]?
noncomputable def fa_9 (p : Program) : Arguments := sA (bd p)[9]?
noncomputable def fs_9 (p : Program) : Scope := sS (bd p)[9]?
noncomputable def fb_10 (p : Program) : List Stmt := sB (bd p)[10]?
noncomputable def fa_10 (p : Program) : Arguments := sA (bd p)[10]?
noncomputable def fs_10 (p : Program) : Scope := sS (bd p)[10]?
noncomputable def fb_11 (p : Program) : List Stmt := sB (bd p)[11]?
noncomputable def fa_11 (p : Program) : Arguments := sA (bd p)[11]?
noncomputable def fs_11 (p : Program) : Scope := sS (bd p)[11]?
noncomputable def life : Life := { }
noncomputable def drawn : Drawn := { }
noncomputable def o11_0 (p : Program) (P : Params) : Obj := { cls := PySem.Value.type "tuple", data := PySem.Data.seq #[] }
noncomputable def o12_0 (p : Program) (P : Params) : Obj := { cls := PySem.Value.none, data := PySem.Data.fields #[] }
noncomputable def o13_0 (p : Program) (P : Params) : Obj := { cls := PySem.Value.type "code", data := PySem.Data.fields #[PySem.Value.str (PySem.Str.ofString "<module>") 182, PySem.Value.str (PySem.Str.ofString "<module>") 183, PySem.Value.str (PySem.Str.ofString "/claim/cut.py") 184, PySem.Value.int 1 0, PySem.Value.int 0 0, PySem.Value.int 0 0, PySem.Value.int 0 0, PySem.Value.int 0 0, PySem.Value.ref 11, PySem.Value.bool Bool.false, PySem.Value.int 181 0, PySem.Value.ref 12, PySem.Value.none, PySem.Value.none, PySem.Value.none, PySem.Value.none, PySem.Value.int 185 0, PySem.Value.int 1 0, PySem.Value.str (PySem.Str.ofString "/claim/cut.py") 186] }
noncomputable def o14_0 (p : Program) (P : Params) : Obj := { cls := PySem.Value.type "frame", slots := #[Option.some (PySem.Value.ref 13), Option.some (PySem.Value.ref 3), Option.some (PySem.Value.ref 3), Option.none, Option.some (PySem.Value.str (PySem.Str.ofString "__main__") 164), Option.none, Option.some (PySem.Value.ref 0)] }
noncomputable def Ha (p : Program) (P : Params) : Heap := Heap.mk (Array.mk [PySem.W.boot_o_0 P, PySem.W.boot_o_1 P, PySem.W.boot_o_2 P, PySem.W.boot_o_3 P, PySem.W.boot_o_4 P, PySem.W.boot_o_5 P, PySem.W.boot_o_6 P, PySem.W.boot_o_7 P, PySem.W.boot_o_8 P, PySem.W.boot_o_9 P, PySem.W.boot_o_10 P, o11_0 p P, o12_0 p P, o13_0 p P, o14_0 p P]) life
noncomputable def Sa (w : World) (os : OsState) : Shared := ⟨Ha pw w.params, Array.mk [], drawn, 187, os⟩
noncomputable def tb (p : Program) (P : Params) : BT := (.node (PySem.W.boot_o_0 P) (.node (PySem.W.boot_o_1 P) (.node (PySem.W.boot_o_3 P) (.node (PySem.W.boot_o_7 P) .nil .nil) (.node (o11_0 p P) .nil .nil)) (.node (PySem.W.boot_o_5 P) (.node (PySem.W.boot_o_9 P) .nil .nil) (.node (o13_0 p P) .nil .nil))) (.node (PySem.W.boot_o_2 P) (.node (PySem.W.boot_o_4 P) (.node (PySem.W.boot_o_8 P) .nil .nil) (.node (o12_0 p P) .nil .nil)) (.node (PySem.W.boot_o_6 P) (.node (PySem.W.boot_o_10 P) .nil .nil) (.node (o14_0 p P) .nil .nil))))
noncomputable def Sb (w : World) (os : OsState) : SharedT := ⟨tb pw w.params, 15, life, Array.mk [], drawn, 187, os⟩
noncomputable def o3_0 (p : Program) (P : Params) : Obj := { cls := PySem.Value.type "dict", data := PySem.Data.dict #[{ hash := PySem.PyData.keyHash P (PySem.Str.ofString "__name__"), key := PySem.Value.str (PySem.Str.ofString "__name__") 165, val := PySem.Value.str (PySem.Str.ofString "cpy313.difflib") 194 }, { hash := PySem.PyData.keyHash P (PySem.Str.ofString "__doc__"), key := PySem.Value.str (PySem.Str.ofString "__doc__") 166, val := PySem.Value.none }, { hash := PySem.PyData.keyHash P (PySem.Str.ofString "__package__"), key := PySem.Value.str (PySem.Str.ofString "__package__") 167, val := PySem.Value.none }, { hash := PySem.PyData.keyHash P (PySem.Str.ofString "__loader__"), key := PySem.Value.str (PySem.Str.ofString "__loader__") 168, val := PySem.Value.builtin "__main__.__loader__#opaque" }, { hash := PySem.PyData.keyHash P (PySem.Str.ofString "__spec__"), key := PySem.Value.str (PySem.Str.ofString "__spec__") 169, val := PySem.Value.none }, { hash := PySem.PyData.keyHash P (PySem.Str.ofString "__annotations__"), key := PySem.Value.str (PySem.Str.ofString "__annotations__") 170, val := PySem.Value.ref 6 }, { hash := PySem.PyData.keyHash P (PySem.Str.ofString "__builtins__"), key := PySem.Value.str (PySem.Str.ofString "__builtins__") 171, val := PySem.Value.ref 4 }, { hash := PySem.PyData.keyHash P (PySem.Str.ofString "__file__"), key := PySem.Value.str (PySem.Str.ofString "__file__") 173, val := PySem.Value.str (PySem.Str.ofString "/claim/cut.py") 172 }, { hash := PySem.PyData.keyHash P (PySem.Str.ofString "__cached__"), key := PySem.Value.str (PySem.Str.ofString "__cached__") 174, val := PySem.Value.none }, { hash := PySem.PyData.keyHash P (PySem.Str.ofString "_wall"), key := PySem.Value.str (PySem.Str.ofString "_wall") 193, val := PySem.Value.ref 21 }, { hash := PySem.PyData.keyHash P (PySem.Str.ofString "_tuplegetter"), key := PySem.Value.str (PySem.Str.ofString "_tuplegetter") 252, val := PySem.Value.ref 60 }] 11 }
noncomputable def o12_1 (p : Program) (P : Params) : Obj := { cls := PySem.Value.none, data := PySem.Data.fields #[PySem.Value.int 1 0, PySem.Value.int 0 0, PySem.Value.ref 20, PySem.Value.int 5 0, PySem.Value.int 0 0, PySem.Value.ref 27] }
noncomputable def o15_0 (p : Program) (P : Params) : Obj := { cls := PySem.Value.type "tuple", data := PySem.Data.seq #[] }
noncomputable def o16_0 (p : Program) (P : Params) : Obj := { cls := PySem.Value.none, data := PySem.Data.fields #[] }
noncomputable def o17_0 (p : Program) (P : Params) : Obj := { cls := PySem.Value.type "tuple", data := PySem.Data.seq #[PySem.Value.str (PySem.Str.ofString "k") 190] }
noncomputable def o18_0 (p : Program) (P : Params) : Obj := { cls := PySem.Value.type "tuple", data := PySem.Data.seq #[] }
noncomputable def o19_0 (p : Program) (P : Params) : Obj := { cls := PySem.Value.none, data := PySem.Data.func { name := PySem.Str.ofString "_wall", qualname := PySem.Str.ofString "_wall", params := fa_0 p, body := PySem.FuncBody.stmts (fb_0 p), scope := fs_0 p, globals := 0, closure := [], defaults := PySem.Value.none, kwdefaults := PySem.Value.none } }
noncomputable def o20_0 (p : Program) (P : Params) : Obj := { cls := PySem.Value.type "code", data := PySem.Data.fields #[PySem.Value.str (PySem.Str.ofString "_wall") 187, PySem.Value.str (PySem.Str.ofString "_wall") 188, PySem.Value.str (PySem.Str.ofString "/claim/cut.py") 189, PySem.Value.int 1 0, PySem.Value.int 1 0, PySem.Value.int 0 0, PySem.Value.int 0 0, PySem.Value.int 3 0, PySem.Value.ref 15, PySem.Value.bool Bool.true, PySem.Value.int 181 0, PySem.Value.ref 16, PySem.Value.none, PySem.Value.ref 17, PySem.Value.ref 18, PySem.Value.ref 19, PySem.Value.int 191 0, PySem.Value.int 1 0, PySem.Value.str (PySem.Str.ofString "/claim/cut.py") 192] }
noncomputable def o21_0 (p : Program) (P : Params) : Obj := { cls := PySem.Value.type "function", data := PySem.Data.func { name := PySem.Str.ofString "_wall", qualname := PySem.Str.ofString "_wall", params := fa_0 p, body := PySem.FuncBody.stmts (fb_0 p), scope := fs_0 p, globals := 3, closure := [], defaults := PySem.Value.none, kwdefaults := PySem.Value.none, pyModule := PySem.Value.str (PySem.Str.ofString "__main__") 164, code := PySem.Value.ref 20 } }
noncomputable def o22_0 (p : Program) (P : Params) : Obj := { cls := PySem.Value.type "tuple", data := PySem.Data.seq #[] }
noncomputable def o23_0 (p : Program) (P : Params) : Obj := { cls := PySem.Value.type "builtin_function_or_method", data := PySem.Data.fields #[PySem.Value.builtin "type.__prepare__", PySem.Value.type "type"] }
noncomputable def o24_0 (p : Program) (P : Params) : Obj := { cls := PySem.Value.type "dict", data := PySem.Data.dict #[{ hash := PySem.PyData.keyHash P (PySem.Str.ofString "__module__"), key := PySem.Value.str (PySem.Str.ofString "__module__") 203, val := PySem.Value.str (PySem.Str.ofString "cpy313.difflib") 194 }, { hash := PySem.PyData.keyHash P (PySem.Str.ofString "__qualname__"), key := PySem.Value.str (PySem.Str.ofString "__qualname__") 205, val := PySem.Value.str (PySem.Str.ofString "_tuplegetter") 204 }, { hash := PySem.PyData.keyHash P (PySem.Str.ofString "__firstlineno__"), key := PySem.Value.str (PySem.Str.ofString "__firstlineno__") 207, val := PySem.Value.int 5 206 }, { hash := PySem.PyData.keyHash P (PySem.Str.ofString "__init__"), key := PySem.Value.str (PySem.Str.ofString "__init__") 216, val := PySem.Value.ref 35 }, { hash := PySem.PyData.keyHash P (PySem.Str.ofString "__get__"), key := PySem.Value.str (PySem.Str.ofString "__get__") 225, val := PySem.Value.ref 43 }, { hash := PySem.PyData.keyHash P (PySem.Str.ofString "__set__"), key := PySem.Value.str (PySem.Str.ofString "__set__") 234, val := PySem.Value.ref 50 }, { hash := PySem.PyData.keyHash P (PySem.Str.ofString "__delete__"), key := PySem.Value.str (PySem.Str.ofString "__delete__") 242, val := PySem.Value.ref 57 }, { hash := PySem.PyData.keyHash P (PySem.Str.ofString "__static_attributes__"), key := PySem.Value.str (PySem.Str.ofString "__static_attributes__") 245, val := PySem.Value.ref 58 }] 8 }
noncomputable def o25_0 (p : Program) (P : Params) : Obj := { cls := PySem.Value.type "tuple", data := PySem.Data.seq #[] }
noncomputable def o26_0 (p : Program) (P : Params) : Obj := { cls := PySem.Value.none, data := PySem.Data.fields #[PySem.Value.int 7 0, PySem.Value.int 4 0, PySem.Value.ref 34, PySem.Value.int 11 0, PySem.Value.int 4 0, PySem.Value.ref 42, PySem.Value.int 18 0, PySem.Value.int 4 0, PySem.Value.ref 49, PySem.Value.int 21 0, PySem.Value.int 4 0, PySem.Value.ref 56] }
noncomputable def o27_0 (p : Program) (P : Params) : Obj := { cls := PySem.Value.type "code", data := PySem.Data.fields #[PySem.Value.str (PySem.Str.ofString "_tuplegetter") 198, PySem.Value.str (PySem.Str.ofString "_tuplegetter") 199, PySem.Value.str (PySem.Str.ofString "/claim/cut.py") 200, PySem.Value.int 5 0, PySem.Value.int 0 0, PySem.Value.int 0 0, PySem.Value.int 0 0, PySem.Value.int 0 0, PySem.Value.ref 25, PySem.Value.bool Bool.false, PySem.Value.int 181 0, PySem.Value.ref 26, PySem.Value.none, PySem.Value.none, PySem.Value.none, PySem.Value.none, PySem.Value.int 201 0, PySem.Value.int 5 0, PySem.Value.str (PySem.Str.ofString "/claim/cut.py") 202] }
noncomputable def o28_0 (p : Program) (P : Params) : Obj := { cls := PySem.Value.type "frame", slots := #[Option.some (PySem.Value.ref 27), Option.some (PySem.Value.ref 3), Option.some (PySem.Value.ref 24), Option.none, Option.some (PySem.Value.str (PySem.Str.ofString "cpy313.difflib") 194), Option.none, Option.some (PySem.Value.ref 0)] }
noncomputable def o29_0 (p : Program) (P : Params) : Obj := { cls := PySem.Value.type "tuple", data := PySem.Data.seq #[] }
noncomputable def o30_0 (p : Program) (P : Params) : Obj := { cls := PySem.Value.none, data := PySem.Data.fields #[] }
noncomputable def o31_0 (p : Program) (P : Params) : Obj := { cls := PySem.Value.type "tuple", data := PySem.Data.seq #[PySem.Value.str (PySem.Str.ofString "self") 211, PySem.Value.str (PySem.Str.ofString "index") 212, PySem.Value.str (PySem.Str.ofString "doc") 213] }
noncomputable def o32_0 (p : Program) (P : Params) : Obj := { cls := PySem.Value.type "tuple", data := PySem.Data.seq #[] }
noncomputable def o33_0 (p : Program) (P : Params) : Obj := { cls := PySem.Value.none, data := PySem.Data.func { name := PySem.Str.ofString "__init__", qualname := PySem.Str.ofString "_tuplegetter.__init__", params := fa_2_0 p, body := PySem.FuncBody.stmts (fb_2_0 p), scope := fs_2_0 p, globals := 0, closure := [], defaults := PySem.Value.none, kwdefaults := PySem.Value.none } }
noncomputable def o34_0 (p : Program) (P : Params) : Obj := { cls := PySem.Value.type "code", data := PySem.Data.fields #[PySem.Value.str (PySem.Str.ofString "__init__") 208, PySem.Value.str (PySem.Str.ofString "_tuplegetter.__init__") 209, PySem.Value.str (PySem.Str.ofString "/claim/cut.py") 210, PySem.Value.int 7 0, PySem.Value.int 3 0, PySem.Value.int 0 0, PySem.Value.int 0 0, PySem.Value.int 3 0, PySem.Value.ref 29, PySem.Value.bool Bool.true, PySem.Value.int 181 0, PySem.Value.ref 30, PySem.Value.none, PySem.Value.ref 31, PySem.Value.ref 32, PySem.Value.ref 33, PySem.Value.int 214 0, PySem.Value.int 7 0, PySem.Value.str (PySem.Str.ofString "/claim/cut.py") 215] }
noncomputable def o35_0 (p : Program) (P : Params) : Obj := { cls := PySem.Value.type "function", data := PySem.Data.func { name := PySem.Str.ofString "__init__", qualname := PySem.Str.ofString "_tuplegetter.__init__", params := fa_2_0 p, body := PySem.FuncBody.stmts (fb_2_0 p), scope := fs_2_0 p, globals := 3, closure := [], defaults := PySem.Value.none, kwdefaults := PySem.Value.none, pyModule := PySem.Value.str (PySem.Str.ofString "cpy313.difflib") 194, code := PySem.Value.ref 34 } }
noncomputable def o36_0 (p : Program) (P : Params) : Obj := { cls := PySem.Value.type "tuple", data := PySem.Data.seq #[PySem.Value.none] }
noncomputable def o37_0 (p : Program) (P : Params) : Obj := { cls := PySem.Value.type "tuple", data := PySem.Data.seq #[] }
noncomputable def o38_0 (p : Program) (P : Params) : Obj := { cls := PySem.Value.none, data := PySem.Data.fields #[] }
noncomputable def o39_0 (p : Program) (P : Params) : Obj := { cls := PySem.Value.type "tuple", data := PySem.Data.seq #[PySem.Value.str (PySem.Str.ofString "self") 220, PySem.Value.str (PySem.Str.ofString "obj") 221, PySem.Value.str (PySem.Str.ofString "objtype") 222] }
noncomputable def o40_0 (p : Program) (P : Params) : Obj := { cls := PySem.Value.type "tuple", data := PySem.Data.seq #[] }
noncomputable def o41_0 (p : Program) (P : Params) : Obj := { cls := PySem.Value.none, data := PySem.Data.func { name := PySem.Str.ofString "__get__", qualname := PySem.Str.ofString "_tuplegetter.__get__", params := fa_2_1 p, body := PySem.FuncBody.stmts (fb_2_1 p), scope := fs_2_1 p, globals := 0, closure := [], defaults := PySem.Value.none, kwdefaults := PySem.Value.none } }
noncomputable def o42_0 (p : Program) (P : Params) : Obj := { cls := PySem.Value.type "code", data := PySem.Data.fields #[PySem.Value.str (PySem.Str.ofString "__get__") 217, PySem.Value.str (PySem.Str.ofString "_tuplegetter.__get__") 218, PySem.Value.str (PySem.Str.ofString "/claim/cut.py") 219, PySem.Value.int 11 0, PySem.Value.int 3 0, PySem.Value.int 0 0, PySem.Value.int 0 0, PySem.Value.int 3 0, PySem.Value.ref 37, PySem.Value.bool Bool.true, PySem.Value.int 181 0, PySem.Value.ref 38, PySem.Value.none, PySem.Value.ref 39, PySem.Value.ref 40, PySem.Value.ref 41, PySem.Value.int 223 0, PySem.Value.int 11 0, PySem.Value.str (PySem.Str.ofString "/claim/cut.py") 224] }
noncomputable def o43_0 (p : Program) (P : Params) : Obj := { cls := PySem.Value.type "function", data := PySem.Data.func { name := PySem.Str.ofString "__get__", qualname := PySem.Str.ofString "_tuplegetter.__get__", params := fa_2_1 p, body := PySem.FuncBody.stmts (fb_2_1 p), scope := fs_2_1 p, globals := 3, closure := [], defaults := PySem.Value.ref 36, kwdefaults := PySem.Value.none, pyModule := PySem.Value.str (PySem.Str.ofString "cpy313.difflib") 194, code := PySem.Value.ref 42 } }
noncomputable def o44_0 (p : Program) (P : Params) : Obj := { cls := PySem.Value.type "tuple", data := PySem.Data.seq #[] }
noncomputable def o45_0 (p : Program) (P : Params) : Obj := { cls := PySem.Value.none, data := PySem.Data.fields #[] }
noncomputable def o46_0 (p : Program) (P : Params) : Obj := { cls := PySem.Value.type "tuple", data := PySem.Data.seq #[PySem.Value.str (PySem.Str.ofString "self") 229, PySem.Value.str (PySem.Str.ofString "obj") 230, PySem.Value.str (PySem.Str.ofString "value") 231] }
noncomputable def o47_0 (p : Program) (P : Params) : Obj := { cls := PySem.Value.type "tuple", data := PySem.Data.seq #[] }
noncomputable def o48_0 (p : Program) (P : Params) : Obj := { cls := PySem.Value.none, data := PySem.Data.func { name := PySem.Str.ofString "__set__", qualname := PySem.Str.ofString "_tuplegetter.__set__", params := fa_2_2 p, body := PySem.FuncBody.stmts (fb_2_2 p), scope := fs_2_2 p, globals := 0, closure := [], defaults := PySem.Value.none, kwdefaults := PySem.Value.none } }
noncomputable def o49_0 (p : Program) (P : Params) : Obj := { cls := PySem.Value.type "code", data := PySem.Data.fields #[PySem.Value.str (PySem.Str.ofString "__set__") 226, PySem.Value.str (PySem.Str.ofString "_tuplegetter.__set__") 227, PySem.Value.str (PySem.Str.ofString "/claim/cut.py") 228, PySem.Value.int 18 0, PySem.Value.int 3 0, PySem.Value.int 0 0, PySem.Value.int 0 0, PySem.Value.int 3 0, PySem.Value.ref 44, PySem.Value.bool Bool.true, PySem.Value.int 181 0, PySem.Value.ref 45, PySem.Value.none, PySem.Value.ref 46, PySem.Value.ref 47, PySem.Value.ref 48, PySem.Value.int 232 0, PySem.Value.int 18 0, PySem.Value.str (PySem.Str.ofString "/claim/cut.py") 233] }
noncomputable def o50_0 (p : Program) (P : Params) : Obj := { cls := PySem.Value.type "function", data := PySem.Data.func { name := PySem.Str.ofString "__set__", qualname := PySem.Str.ofString "_tuplegetter.__set__", params := fa_2_2 p, body := PySem.FuncBody.stmts (fb_2_2 p), scope := fs_2_2 p, globals := 3, closure := [], defaults := PySem.Value.none, kwdefaults := PySem.Value.none, pyModule := PySem.Value.str (PySem.Str.ofString "cpy313.difflib") 194, code := PySem.Value.ref 49 } }
noncomputable def o51_0 (p : Program) (P : Params) : Obj := { cls := PySem.Value.type "tuple", data := PySem.Data.seq #[] }
noncomputable def o52_0 (p : Program) (P : Params) : Obj := { cls := PySem.Value.none, data := PySem.Data.fields #[] }
noncomputable def o53_0 (p : Program) (P : Params) : Obj := { cls := PySem.Value.type "tuple", data := PySem.Data.seq #[PySem.Value.str (PySem.Str.ofString "self") 238, PySem.Value.str (PySem.Str.ofString "obj") 239] }
noncomputable def o54_0 (p : Program) (P : Params) : Obj := { cls := PySem.Value.type "tuple", data := PySem.Data.seq #[] }
noncomputable def o55_0 (p : Program) (P : Params) : Obj := { cls := PySem.Value.none, data := PySem.Data.func { name := PySem.Str.ofString "__delete__", qualname := PySem.Str.ofString "_tuplegetter.__delete__", params := fa_2_3 p, body := PySem.FuncBody.stmts (fb_2_3 p), scope := fs_2_3 p, globals := 0, closure := [], defaults := PySem.Value.none, kwdefaults := PySem.Value.none } }
noncomputable def o56_0 (p : Program) (P : Params) : Obj := { cls := PySem.Value.type "code", data := PySem.Data.fields #[PySem.Value.str (PySem.Str.ofString "__delete__") 235, PySem.Value.str (PySem.Str.ofString "_tuplegetter.__delete__") 236, PySem.Value.str (PySem.Str.ofString "/claim/cut.py") 237, PySem.Value.int 21 0, PySem.Value.int 2 0, PySem.Value.int 0 0, PySem.Value.int 0 0, PySem.Value.int 3 0, PySem.Value.ref 51, PySem.Value.bool Bool.true, PySem.Value.int 181 0, PySem.Value.ref 52, PySem.Value.none, PySem.Value.ref 53, PySem.Value.ref 54, PySem.Value.ref 55, PySem.Value.int 240 0, PySem.Value.int 21 0, PySem.Value.str (PySem.Str.ofString "/claim/cut.py") 241] }
noncomputable def o57_0 (p : Program) (P : Params) : Obj := { cls := PySem.Value.type "function", data := PySem.Data.func { name := PySem.Str.ofString "__delete__", qualname := PySem.Str.ofString "_tuplegetter.__delete__", params := fa_2_3 p, body := PySem.FuncBody.stmts (fb_2_3 p), scope := fs_2_3 p, globals := 3, closure := [], defaults := PySem.Value.none, kwdefaults := PySem.Value.none, pyModule := PySem.Value.str (PySem.Str.ofString "cpy313.difflib") 194, code := PySem.Value.ref 56 } }
noncomputable def o58_0 (p : Program) (P : Params) : Obj := { cls := PySem.Value.type "tuple", data := PySem.Data.seq #[PySem.Value.str (PySem.Str.ofString "__doc__") 243, PySem.Value.str (PySem.Str.ofString "index") 244] }
noncomputable def o59_0 (p : Program) (P : Params) : Obj := { cls := PySem.Value.type "dict", data := PySem.Data.dict #[{ hash := PySem.PyData.keyHash P (PySem.Str.ofString "__module__"), key := PySem.Value.str (PySem.Str.ofString "__module__") 203, val := PySem.Value.str (PySem.Str.ofString "cpy313.difflib") 194 }, { hash := PySem.PyData.keyHash P (PySem.Str.ofString "__firstlineno__"), key := PySem.Value.str (PySem.Str.ofString "__firstlineno__") 207, val := PySem.Value.int 5 206 }, { hash := PySem.PyData.keyHash P (PySem.Str.ofString "__init__"), key := PySem.Value.str (PySem.Str.ofString "__init__") 216, val := PySem.Value.ref 35 }, { hash := PySem.PyData.keyHash P (PySem.Str.ofString "__get__"), key := PySem.Value.str (PySem.Str.ofString "__get__") 225, val := PySem.Value.ref 43 }, { hash := PySem.PyData.keyHash P (PySem.Str.ofString "__set__"), key := PySem.Value.str (PySem.Str.ofString "__set__") 234, val := PySem.Value.ref 50 }, { hash := PySem.PyData.keyHash P (PySem.Str.ofString "__delete__"), key := PySem.Value.str (PySem.Str.ofString "__delete__") 242, val := PySem.Value.ref 57 }, { hash := PySem.PyData.keyHash P (PySem.Str.ofString "__static_attributes__"), key := PySem.Value.str (PySem.Str.ofString "__static_attributes__") 245, val := PySem.Value.ref 58 }, { hash := PySem.PyData.keyHash P (PySem.Str.ofString "__dict__"), key := PySem.Value.str (PySem.Str.ofString "__dict__") 247, val := PySem.Value.ref 61 }, { hash := PySem.PyData.keyHash P (PySem.Str.ofString "__weakref__"), key := PySem.Value.str (PySem.Str.ofString "__weakref__") 249, val := PySem.Value.ref 62 }, { hash := PySem.PyData.keyHash P (PySem.Str.ofString "__doc__"), key := PySem.Value.str (PySem.Str.ofString "__doc__") 250, val := PySem.Value.none }] 4 }
noncomputable def o60_0 (p : Program) (P : Params) : Obj := { cls := PySem.Value.type "type", data := PySem.Data.cls { name := PySem.Str.ofString "_tuplegetter", bases := [PySem.Value.type "object"], mro := [PySem.Value.ref 60, PySem.Value.type "object"], ns := 59, qualname := PySem.Str.ofString "_tuplegetter" }, slots := #[Option.none, Option.none, Option.some (PySem.Value.str (PySem.Str.ofString "_tuplegetter") 196), Option.some (PySem.Value.str (PySem.Str.ofString "_tuplegetter") 204), Option.some (PySem.Value.builtin "object.__new__"), Option.some (PySem.Value.bool Bool.true)] }
noncomputable def o61_0 (p : Program) (P : Params) : Obj := { cls := PySem.Value.type "getset_descriptor", data := PySem.Data.fields #[PySem.Value.str (PySem.Str.ofString "__dict__") 246, PySem.Value.ref 60, PySem.Value.builtin "function.__dict__", PySem.Value.builtin "function.__dict__#set"] }
noncomputable def o62_0 (p : Program) (P : Params) : Obj := { cls := PySem.Value.type "getset_descriptor", data := PySem.Data.fields #[PySem.Value.str (PySem.Str.ofString "__weakref__") 248, PySem.Value.ref 60, PySem.Value.builtin "ExceptionGroup.__weakref__", PySem.Value.none] }
noncomputable def o63_0 (p : Program) (P : Params) : Obj := { cls := PySem.Value.type "super", data := PySem.Data.fields #[PySem.Value.ref 60, PySem.Value.ref 60, PySem.Value.ref 60] }
noncomputable def o64_0 (p : Program) (P : Params) : Obj := { cls := PySem.Value.type "builtin_function_or_method", data := PySem.Data.fields #[PySem.Value.builtin "object.__init_subclass__", PySem.Value.ref 60] }
noncomputable def t1 (p : Program) (P : Params) : BT := (.node (PySem.W.boot_o_0 P) (.node (PySem.W.boot_o_1 P) (.node (o3_0 p P) (.node (PySem.W.boot_o_7 P) (.node (o15_0 p P) (.node (o31_0 p P) (.node (o63_0 p P) .nil .nil) .nil) (.node (o47_0 p P) .nil .nil)) (.node (o23_0 p P) (.node (o39_0 p P) .nil .nil) (.node (o55_0 p P) .nil .nil))) (.node (o11_0 p P) (.node (o19_0 p P) (.node (o35_0 p P) .nil .nil) (.node (o51_0 p P) .nil .nil)) (.node (o27_0 p P) (.node (o43_0 p P) .nil .nil) (.node (o59_0 p P) .nil .nil)))) (.node (PySem.W.boot_o_5 P) (.node (PySem.W.boot_o_9 P) (.node (o17_0 p P) (.node (o33_0 p P) .nil .nil) (.node (o49_0 p P) .nil .nil)) (.node (o25_0 p P) (.node (o41_0 p P) .nil .nil) (.node (o57_0 p P) .nil .nil))) (.node (o13_0 p P) (.node (o21_0 p P) (.node (o37_0 p P) .nil .nil) (.node (o53_0 p P) .nil .nil)) (.node (o29_0 p P) (.node (o45_0 p P) .nil .nil) (.node (o61_0 p P) .nil .nil))))) (.node (PySem.W.boot_o_2 P) (.node (PySem.W.boot_o_4 P) (.node (PySem.W.boot_o_8 P) (.node (o16_0 p P) (.node (o32_0 p P) (.node (o64_0 p P) .nil .nil) .nil) (.node (o48_0 p P) .nil .nil)) (.node (o24_0 p P) (.node (o40_0 p P) .nil .nil) (.node (o56_0 p P) .nil .nil))) (.node (o12_1 p P) (.node (o20_0 p P) (.node (o36_0 p P) .nil .nil) (.node (o52_0 p P) .nil .nil)) (.node (o28_0 p P) (.node (o44_0 p P) .nil .nil) (.node (o60_0 p P) .nil .nil)))) (.node (PySem.W.boot_o_6 P) (.node (PySem.W.boot_o_10 P) (.node (o18_0 p P) (.node (o34_0 p P) .nil .nil) (.node (o50_0 p P) .nil .nil)) (.node (o26_0 p P) (.node (o42_0 p P) .nil .nil) (.node (o58_0 p P) .nil .nil))) (.node (o14_0 p P) (.node (o22_0 p P) (.node (o38_0 p P) .nil .nil) (.node (o54_0 p P) .nil .nil)) (.node (o30_0 p P) (.node (o46_0 p P) .nil .nil) (.node (o62_0 p P) .nil .nil))))))
noncomputable def S1 (w : World) (os : OsState) : SharedT := ⟨t1 pw w.params, 65, life, Array.mk [], drawn, 253, os⟩
noncomputable def o3_1 (p : Program) (P : Params) : Obj := { cls := PySem.Value.type "dict", data := PySem.Data.dict #[{ hash := PySem.PyData.keyHash P (PySem.Str.ofString "__name__"), key := PySem.Value.str (PySem.Str.ofString "__name__") 165, val := PySem.Value.str (PySem.Str.ofString "cpy313.difflib") 194 }, { hash := PySem.PyData.keyHash P (PySem.Str.ofString "__doc__"), key := PySem.Value.str (PySem.Str.ofString "__doc__") 166, val := PySem.Value.none }, { hash := PySem.PyData.keyHash P (PySem.Str.ofString "__package__"), key := PySem.Value.str (PySem.Str.ofString "__package__") 167, val := PySem.Value.none }, { hash := PySem.PyData.keyHash P (PySem.Str.ofString "__loader__"), key := PySem.Value.str (PySem.Str.ofString "__loader__") 168, val := PySem.Value.builtin "__main__.__loader__#opaque" }, { hash := PySem.PyData.keyHash P (PySem.Str.ofString "__spec__"), key := PySem.Value.str (PySem.Str.ofString "__spec__") 169, val := PySem.Value.none }, { hash := PySem.PyData.keyHash P (PySem.Str.ofString "__annotations__"), key := PySem.Value.str (PySem.Str.ofString "__annotations__") 170, val := PySem.Value.ref 6 }, { hash := PySem.PyData.keyHash P (PySem.Str.ofString "__builtins__"), key := PySem.Value.str (PySem.Str.ofString "__builtins__") 171, val := PySem.Value.ref 4 }, { hash := PySem.PyData.keyHash P (PySem.Str.ofString "__file__"), key := PySem.Value.str (PySem.Str.ofString "__file__") 173, val := PySem.Value.str (PySem.Str.ofString "/claim/cut.py") 172 }, { hash := PySem.PyData.keyHash P (PySem.Str.ofString "__cached__"), key := PySem.Value.str (PySem.Str.ofString "__cached__") 174, val := PySem.Value.none }, { hash := PySem.PyData.keyHash P (PySem.Str.ofString "_wall"), key := PySem.Value.str (PySem.Str.ofString "_wall") 193, val := PySem.Value.ref 21 }, { hash := PySem.PyData.keyHash P (PySem.Str.ofString "_tuplegetter"), key := PySem.Value.str (PySem.Str.ofString "_tuplegetter") 252, val := PySem.Value.ref 60 }, { hash := PySem.PyData.keyHash P (PySem.Str.ofString "Match"), key := PySem.Value.str (PySem.Str.ofString "Match") 380, val := PySem.Value.ref 135 }] 12 }
noncomputable def o12_2 (p : Program) (P : Params) : Obj := { cls := PySem.Value.none, data := PySem.Data.fields #[PySem.Value.int 1 0, PySem.Value.int 0 0, PySem.Value.ref 20, PySem.Value.int 5 0, PySem.Value.int 0 0, PySem.Value.ref 27, PySem.Value.int 23 0, PySem.Value.int 0 0, PySem.Value.ref 71] }
noncomputable def o65_0 (p : Program) (P : Params) : Obj := { cls := PySem.Value.type "tuple", data := PySem.Data.seq #[PySem.Value.type "tuple"] }
noncomputable def o66_0 (p : Program) (P : Params) : Obj := { cls := PySem.Value.type "builtin_function_or_method", data := PySem.Data.fields #[PySem.Value.builtin "type.__prepare__", PySem.Value.type "type"] }
noncomputable def o67_0 (p : Program) (P : Params) : Obj := { cls := PySem.Value.type "dict", data := PySem.Data.dict #[{ hash := PySem.PyData.keyHash P (PySem.Str.ofString "__module__"), key := PySem.Value.str (PySem.Str.ofString "__module__") 260, val := PySem.Value.str (PySem.Str.ofString "cpy313.difflib") 194 }, { hash := PySem.PyData.keyHash P (PySem.Str.ofString "__qualname__"), key := PySem.Value.str (PySem.Str.ofString "__qualname__") 262, val := PySem.Value.str (PySem.Str.ofString "Match") 261 }, { hash := PySem.PyData.keyHash P (PySem.Str.ofString "__firstlineno__"), key := PySem.Value.str (PySem.Str.ofString "__firstlineno__") 264, val := PySem.Value.int 23 263 }, { hash := PySem.PyData.keyHash P (PySem.Str.ofString "__doc__"), key := PySem.Value.str (PySem.Str.ofString "__doc__") 266, val := PySem.Value.str (fd_3 p) 265 }, { hash := PySem.PyData.keyHash P (PySem.Str.ofString "__slots__"), key := PySem.Value.str (PySem.Str.ofString "__slots__") 268, val := PySem.Value.ref 73 }, { hash := PySem.PyData.keyHash P (PySem.Str.ofString "_fields"), key := PySem.Value.str (PySem.Str.ofString "_fields") 272, val := PySem.Value.ref 74 }, { hash := PySem.PyData.keyHash P (PySem.Str.ofString "_field_defaults"), key := PySem.Value.str (PySem.Str.ofString "_field_defaults") 273, val := PySem.Value.ref 75 }, { hash := PySem.PyData.keyHash P (PySem.Str.ofString "__new__"), key := PySem.Value.str (PySem.Str.ofString "__new__") 284, val := PySem.Value.ref 82 }, { hash := PySem.PyData.keyHash P (PySem.Str.ofString "_make"), key := PySem.Value.str (PySem.Str.ofString "_make") 306, val := PySem.Value.ref 91 }, { hash := PySem.PyData.keyHash P (PySem.Str.ofString "_replace"), key := PySem.Value.str (PySem.Str.ofString "_replace") 317, val := PySem.Value.ref 100 }, { hash := PySem.PyData.keyHash P (PySem.Str.ofString "__replace__"), key := PySem.Value.str (PySem.Str.ofString "__replace__") 318, val := PySem.Value.ref 100 }, { hash := PySem.PyData.keyHash P (PySem.Str.ofString "__repr__"), key := PySem.Value.str (PySem.Str.ofString "__repr__") 326, val := PySem.Value.ref 107 }, { hash := PySem.PyData.keyHash P (PySem.Str.ofString "_asdict"), key := PySem.Value.str (PySem.Str.ofString "_asdict") 333, val := PySem.Value.ref 114 }, { hash := PySem.PyData.keyHash P (PySem.Str.ofString "__getnewargs__"), key := PySem.Value.str (PySem.Str.ofString "__getnewargs__") 341, val := PySem.Value.ref 121 }, { hash := PySem.PyData.keyHash P (PySem.Str.ofString "__match_args__"), key := PySem.Value.str (PySem.Str.ofString "__match_args__") 345, val := PySem.Value.ref 122 }, { hash := PySem.PyData.keyHash P (PySem.Str.ofString "a"), key := PySem.Value.str (PySem.Str.ofString "a") 355, val := PySem.Value.ref 124 }, { hash := PySem.PyData.keyHash P (PySem.Str.ofString "b"), key := PySem.Value.str (PySem.Str.ofString "b") 365, val := PySem.Value.ref 127 }, { hash := PySem.PyData.keyHash P (PySem.Str.ofString "size"), key := PySem.Value.str (PySem.Str.ofString "size") 375, val := PySem.Value.ref 130 }, { hash := PySem.PyData.keyHash P (PySem.Str.ofString "__static_attributes__"), key := PySem.Value.str (PySem.Str.ofString "__static_attributes__") 376, val := PySem.Value.ref 132 }, { hash := PySem.PyData.keyHash P (PySem.Str.ofString "__classcell__"), key := PySem.Value.str (PySem.Str.ofString "__classcell__") 377, val := PySem.Value.ref 68 }] 20 }
noncomputable def o68_0 (p : Program) (P : Params) : Obj := { cls := PySem.Value.type "cell", data := PySem.Data.cell (Option.some (PySem.Value.ref 135)) }
noncomputable def o69_0 (p : Program) (P : Params) : Obj := { cls := PySem.Value.type "tuple", data := PySem.Data.seq #[] }
noncomputable def o70_0 (p : Program) (P : Params) : Obj := { cls := PySem.Value.none, data := PySem.Data.fields #[PySem.Value.int 29 0, PySem.Value.int 4 0, PySem.Value.ref 81, PySem.Value.int 34 0, PySem.Value.int 4 0, PySem.Value.ref 88, PySem.Value.int 41 0, PySem.Value.int 4 0, PySem.Value.ref 99, PySem.Value.int 52 0, PySem.Value.int 4 0, PySem.Value.ref 106, PySem.Value.int 56 0, PySem.Value.int 4 0, PySem.Value.ref 113, PySem.Value.int 59 0, PySem.Value.int 4 0, PySem.Value.ref 120] }
noncomputable def o71_0 (p : Program) (P : Params) : Obj := { cls := PySem.Value.type "code", data := PySem.Data.fields #[PySem.Value.str (PySem.Str.ofString "Match") 255, PySem.Value.str (PySem.Str.ofString "Match") 256, PySem.Value.str (PySem.Str.ofString "/claim/cut.py") 257, PySem.Value.int 23 0, PySem.Value.int 0 0, PySem.Value.int 0 0, PySem.Value.int 0 0, PySem.Value.int 0 0, PySem.Value.ref 69, PySem.Value.bool Bool.false, PySem.Value.int 181 0, PySem.Value.ref 70, PySem.Value.none, PySem.Value.none, PySem.Value.none, PySem.Value.none, PySem.Value.int 258 0, PySem.Value.int 23 0, PySem.Value.str (PySem.Str.ofString "/claim/cut.py") 259] }
noncomputable def o72_0 (p : Program) (P : Params) : Obj := { cls := PySem.Value.type "frame", slots := #[Option.some (PySem.Value.ref 71), Option.some (PySem.Value.ref 3), Option.some (PySem.Value.ref 67), Option.none, Option.some (PySem.Value.str (PySem.Str.ofString "cpy313.difflib") 194), Option.none, Option.some (PySem.Value.ref 0)] }
noncomputable def o73_0 (p : Program) (P : Params) : Obj := { cls := PySem.Value.type "tuple", data := PySem.Data.seq #[] }
noncomputable def o74_0 (p : Program) (P : Params) : Obj := { cls := PySem.Value.type "tuple", data := PySem.Data.seq #[PySem.Value.str (PySem.Str.ofString "a") 269, PySem.Value.str (PySem.Str.ofString "b") 270, PySem.Value.str (PySem.Str.ofString "size") 271] }
noncomputable def o75_0 (p : Program) (P : Params) : Obj := { cls := PySem.Value.type "dict", data := PySem.Data.dict #[] }
noncomputable def o76_0 (p : Program) (P : Params) : Obj := { cls := PySem.Value.type "tuple", data := PySem.Data.seq #[] }
noncomputable def o77_0 (p : Program) (P : Params) : Obj := { cls := PySem.Value.none, data := PySem.Data.fields #[] }
noncomputable def o78_0 (p : Program) (P : Params) : Obj := { cls := PySem.Value.type "tuple", data := PySem.Data.seq #[PySem.Value.str (PySem.Str.ofString "_cls") 277, PySem.Value.str (PySem.Str.ofString "a") 278, PySem.Value.str (PySem.Str.ofString "b") 279, PySem.Value.str (PySem.Str.ofString "size") 280] }
noncomputable def o79_0 (p : Program) (P : Params) : Obj := { cls := PySem.Value.type "tuple", data := PySem.Data.seq #[] }
noncomputable def o80_0 (p : Program) (P : Params) : Obj := { cls := PySem.Value.none, data := PySem.Data.func { name := PySem.Str.ofString "__new__", qualname := PySem.Str.ofString "Match.__new__", params := fa_3_4 p, body := PySem.FuncBody.stmts (fb_3_4 p), scope := fs_3_4 p, globals := 0, closure := [], defaults := PySem.Value.none, kwdefaults := PySem.Value.none } }
noncomputable def o81_0 (p : Program) (P : Params) : Obj := { cls := PySem.Value.type "code", data := PySem.Data.fields #[PySem.Value.str (PySem.Str.ofString "__new__") 274, PySem.Value.str (PySem.Str.ofString "Match.__new__") 275, PySem.Value.str (PySem.Str.ofString "/claim/cut.py") 276, PySem.Value.int 29 0, PySem.Value.int 4 0, PySem.Value.int 0 0, PySem.Value.int 0 0, PySem.Value.int 3 0, PySem.Value.ref 76, PySem.Value.bool Bool.true, PySem.Value.int 181 0, PySem.Value.ref 77, PySem.Value.none, PySem.Value.ref 78, PySem.Value.ref 79, PySem.Value.ref 80, PySem.Value.int 281 0, PySem.Value.int 29 0, PySem.Value.str (PySem.Str.ofString "/claim/cut.py") 282] }
noncomputable def o82_0 (p : Program) (P : Params) : Obj := { cls := PySem.Value.type "function", data := PySem.Data.func { name := PySem.Str.ofString "__new__", qualname := PySem.Str.ofString "Match.__new__", params := fa_3_4 p, body := PySem.FuncBody.stmts (fb_3_4 p), scope := fs_3_4 p, globals := 3, closure := [], defaults := PySem.Value.none, kwdefaults := PySem.Value.none, doc := PySem.Value.str (fd_3_4 p) 283, pyModule := PySem.Value.str (PySem.Str.ofString "cpy313.difflib") 194, code := PySem.Value.ref 81 } }
noncomputable def o83_0 (p : Program) (P : Params) : Obj := { cls := PySem.Value.type "tuple", data := PySem.Data.seq #[] }
noncomputable def o84_0 (p : Program) (P : Params) : Obj := { cls := PySem.Value.none, data := PySem.Data.fields #[] }
noncomputable def o85_0 (p : Program) (P : Params) : Obj := { cls := PySem.Value.type "tuple", data := PySem.Data.seq #[PySem.Value.str (PySem.Str.ofString "cls") 288, PySem.Value.str (PySem.Str.ofString "iterable") 289, PySem.Value.str (PySem.Str.ofString "result") 290] }
noncomputable def o86_0 (p : Program) (P : Params) : Obj := { cls := PySem.Value.type "tuple", data := PySem.Data.seq #[] }
noncomputable def o87_0 (p : Program) (P : Params) : Obj := { cls := PySem.Value.none, data := PySem.Data.func { name := PySem.Str.ofString "_make", qualname := PySem.Str.ofString "Match._make", params := fa_3_5 p, body := PySem.FuncBody.stmts (fb_3_5 p), scope := fs_3_5 p, globals := 0, closure := [], defaults := PySem.Value.none, kwdefaults := PySem.Value.none } }
noncomputable def o88_0 (p : Program) (P : Params) : Obj := { cls := PySem.Value.type "code", data := PySem.Data.fields #[PySem.Value.str (PySem.Str.ofString "_make") 285, PySem.Value.str (PySem.Str.ofString "Match._make") 286, PySem.Value.str (PySem.Str.ofString "/claim/cut.py") 287, PySem.Value.int 33 0, PySem.Value.int 2 0, PySem.Value.int 0 0, PySem.Value.int 0 0, PySem.Value.int 3 0, PySem.Value.ref 83, PySem.Value.bool Bool.true, PySem.Value.int 181 0, PySem.Value.ref 84, PySem.Value.none, PySem.Value.ref 85, PySem.Value.ref 86, PySem.Value.ref 87, PySem.Value.int 291 0, PySem.Value.int 33 0, PySem.Value.str (PySem.Str.ofString "/claim/cut.py") 292] }
noncomputable def o89_0 (p : Program) (P : Params) : Obj := { cls := PySem.Value.type "function", data := PySem.Data.func { name := PySem.Str.ofString "_make", qualname := PySem.Str.ofString "Match._make", params := fa_3_5 p, body := PySem.FuncBody.stmts (fb_3_5 p), scope := fs_3_5 p, globals := 3, closure := [], defaults := PySem.Value.none, kwdefaults := PySem.Value.none, doc := PySem.Value.str (fd_3_5 p) 293, pyModule := PySem.Value.str (PySem.Str.ofString "cpy313.difflib") 194, annotations := Option.some 92, code := PySem.Value.ref 88 } }
noncomputable def o90_0 (p : Program) (P : Params) : Obj := { cls := PySem.Value.type "dict", data := PySem.Data.dict #[{ hash := PySem.PyData.keyHash P (PySem.Str.ofString "__module__"), key := PySem.Value.str (PySem.Str.ofString "__module__") 295, val := PySem.Value.str (PySem.Str.ofString "cpy313.difflib") 194 }, { hash := PySem.PyData.keyHash P (PySem.Str.ofString "__name__"), key := PySem.Value.str (PySem.Str.ofString "__name__") 298, val := PySem.Value.str (PySem.Str.ofString "_make") 297 }, { hash := PySem.PyData.keyHash P (PySem.Str.ofString "__qualname__"), key := PySem.Value.str (PySem.Str.ofString "__qualname__") 301, val := PySem.Value.str (PySem.Str.ofString "Match._make") 300 }, { hash := PySem.PyData.keyHash P (PySem.Str.ofString "__doc__"), key := PySem.Value.str (PySem.Str.ofString "__doc__") 303, val := PySem.Value.str (fd_3_5 p) 293 }, { hash := PySem.PyData.keyHash P (PySem.Str.ofString "__annotations__"), key := PySem.Value.str (PySem.Str.ofString "__annotations__") 305, val := PySem.Value.ref 92 }] 5 }
noncomputable def o91_0 (p : Program) (P : Params) : Obj := { cls := PySem.Value.type "classmethod", dict := Option.some 90, data := PySem.Data.fields #[PySem.Value.ref 89, PySem.Value.bool Bool.false] }
noncomputable def o92_0 (p : Program) (P : Params) : Obj := { cls := PySem.Value.type "dict", data := PySem.Data.dict #[] }
noncomputable def o93_0 (p : Program) (P : Params) : Obj := { cls := PySem.Value.type "tuple", data := PySem.Data.seq #[PySem.Value.ref 68] }
noncomputable def o94_0 (p : Program) (P : Params) : Obj := { cls := PySem.Value.type "tuple", data := PySem.Data.seq #[PySem.Value.str (PySem.Str.ofString "__class__") 310] }
noncomputable def o95_0 (p : Program) (P : Params) : Obj := { cls := PySem.Value.none, data := PySem.Data.fields #[] }
noncomputable def o96_0 (p : Program) (P : Params) : Obj := { cls := PySem.Value.type "tuple", data := PySem.Data.seq #[PySem.Value.str (PySem.Str.ofString "self") 311, PySem.Value.str (PySem.Str.ofString "kwds") 312, PySem.Value.str (PySem.Str.ofString "result") 313] }
noncomputable def o97_0 (p : Program) (P : Params) : Obj := { cls := PySem.Value.type "tuple", data := PySem.Data.seq #[] }
noncomputable def o98_0 (p : Program) (P : Params) : Obj := { cls := PySem.Value.none, data := PySem.Data.func { name := PySem.Str.ofString "_replace", qualname := PySem.Str.ofString "Match._replace", params := fa_3_6 p, body := PySem.FuncBody.stmts (fb_3_6 p), scope := fs_3_6 p, globals := 0, closure := [], defaults := PySem.Value.none, kwdefaults := PySem.Value.none } }
noncomputable def o99_0 (p : Program) (P : Params) : Obj := { cls := PySem.Value.type "code", data := PySem.Data.fields #[PySem.Value.str (PySem.Str.ofString "_replace") 307, PySem.Value.str (PySem.Str.ofString "Match._replace") 308, PySem.Value.str (PySem.Str.ofString "/claim/cut.py") 309, PySem.Value.int 41 0, PySem.Value.int 1 0, PySem.Value.int 1 0, PySem.Value.int 0 0, PySem.Value.int 11 0, PySem.Value.ref 94, PySem.Value.bool Bool.true, PySem.Value.int 181 0, PySem.Value.ref 95, PySem.Value.none, PySem.Value.ref 96, PySem.Value.ref 97, PySem.Value.ref 98, PySem.Value.int 314 0, PySem.Value.int 41 0, PySem.Value.str (PySem.Str.ofString "/claim/cut.py") 315] }
noncomputable def o100_0 (p : Program) (P : Params) : Obj := { cls := PySem.Value.type "function", data := PySem.Data.func { name := PySem.Str.ofString "_replace", qualname := PySem.Str.ofString "Match._replace", params := fa_3_6 p, body := PySem.FuncBody.stmts (fb_3_6 p), scope := fs_3_6 p, globals := 3, closure := [(PySem.Str.ofString "__class__", 68)], defaults := PySem.Value.none, kwdefaults := PySem.Value.none, doc := PySem.Value.str (fd_3_6 p) 316, pyModule := PySem.Value.str (PySem.Str.ofString "cpy313.difflib") 194, code := PySem.Value.ref 99, closureTuple := PySem.Value.ref 93 } }
noncomputable def o101_0 (p : Program) (P : Params) : Obj := { cls := PySem.Value.type "tuple", data := PySem.Data.seq #[] }
noncomputable def o102_0 (p : Program) (P : Params) : Obj := { cls := PySem.Value.none, data := PySem.Data.fields #[] }
noncomputable def o103_0 (p : Program) (P : Params) : Obj := { cls := PySem.Value.type "tuple", data := PySem.Data.seq #[PySem.Value.str (PySem.Str.ofString "self") 322] }
noncomputable def o104_0 (p : Program) (P : Params) : Obj := { cls := PySem.Value.type "tuple", data := PySem.Data.seq #[] }
noncomputable def o105_0 (p : Program) (P : Params) : Obj := { cls := PySem.Value.none, data := PySem.Data.func { name := PySem.Str.ofString "__repr__", qualname := PySem.Str.ofString "Match.__repr__", params := fa_3_8 p, body := PySem.FuncBody.stmts (fb_3_8 p), scope := fs_3_8 p, globals := 0, closure := [], defaults := PySem.Value.none, kwdefaults := PySem.Value.none } }
noncomputable def o106_0 (p : Program) (P : Params) : Obj := { cls := PySem.Value.type "code", data := PySem.Data.fields #[PySem.Value.str (PySem.Str.ofString "__repr__") 319, PySem.Value.str (PySem.Str.ofString "Match.__repr__") 320, PySem.Value.str (PySem.Str.ofString "/claim/cut.py") 321, PySem.Value.int 52 0, PySem.Value.int 1 0, PySem.Value.int 0 0, PySem.Value.int 0 0, PySem.Value.int 3 0, PySem.Value.ref 101, PySem.Value.bool Bool.true, PySem.Value.int 181 0, PySem.Value.ref 102, PySem.Value.none, PySem.Value.ref 103, PySem.Value.ref 104, PySem.Value.ref 105, PySem.Value.int 323 0, PySem.Value.int 52 0, PySem.Value.str (PySem.Str.ofString "/claim/cut.py") 324] }
noncomputable def o107_0 (p : Program) (P : Params) : Obj := { cls := PySem.Value.type "function", data := PySem.Data.func { name := PySem.Str.ofString "__repr__", qualname := PySem.Str.ofString "Match.__repr__", params := fa_3_8 p, body := PySem.FuncBody.stmts (fb_3_8 p), scope := fs_3_8 p, globals := 3, closure := [], defaults := PySem.Value.none, kwdefaults := PySem.Value.none, doc := PySem.Value.str (fd_3_8 p) 325, pyModule := PySem.Value.str (PySem.Str.ofString "cpy313.difflib") 194, code := PySem.Value.ref 106 } }
noncomputable def o108_0 (p : Program) (P : Params) : Obj := { cls := PySem.Value.type "tuple", data := PySem.Data.seq #[] }
noncomputable def o109_0 (p : Program) (P : Params) : Obj := { cls := PySem.Value.none, data := PySem.Data.fields #[] }
noncomputable def o110_0 (p : Program) (P : Params) : Obj := { cls := PySem.Value.type "tuple", data := PySem.Data.seq #[PySem.Value.str (PySem.Str.ofString "self") 330] }
noncomputable def o111_0 (p : Program) (P : Params) : Obj := { cls := PySem.Value.type "tuple", data := PySem.Data.seq #[] }
noncomputable def o112_0 (p : Program) (P : Params) : Obj := { cls := PySem.Value.none, data := PySem.Data.func { name := PySem.Str.ofString "_asdict", qualname := PySem.Str.ofString "Match._asdict", params := fa_3_9 p, body := PySem.FuncBody.stmts (fb_3_9 p), scope := fs_3_9 p, globals := 0, closure := [], defaults := PySem.Value.none, kwdefaults := PySem.Value.none } }
noncomputable def o113_0 (p : Program) (P : Params) : Obj := { cls := PySem.Value.type "code", data := PySem.Data.fields #[PySem.Value.str (PySem.Str.ofString "_asdict") 327, PySem.Value.str (PySem.Str.ofString "Match._asdict") 328, PySem.Value.str (PySem.Str.ofString "/claim/cut.py") 329, PySem.Value.int 56 0, PySem.Value.int 1 0, PySem.Value.int 0 0, PySem.Value.int 0 0, PySem.Value.int 3 0, PySem.Value.ref 108, PySem.Value.bool Bool.true, PySem.Value.int 181 0, PySem.Value.ref 109, PySem.Value.none, PySem.Value.ref 110, PySem.Value.ref 111, PySem.Value.ref 112, PySem.Value.int 331 0, PySem.Value.int 56 0, PySem.Value.str (PySem.Str.ofString "/claim/cut.py") 332] }
noncomputable def o114_0 (p : Program) (P : Params) : Obj := { cls := PySem.Value.type "function", data := PySem.Data.func { name := PySem.Str.ofString "_asdict", qualname := PySem.Str.ofString "Match._asdict", params := fa_3_9 p, body := PySem.FuncBody.stmts (fb_3_9 p), scope := fs_3_9 p, globals := 3, closure := [], defaults := PySem.Value.none, kwdefaults := PySem.Value.none, pyModule := PySem.Value.str (PySem.Str.ofString "cpy313.difflib") 194, code := PySem.Value.ref 113 } }
noncomputable def o115_0 (p : Program) (P : Params) : Obj := { cls := PySem.Value.type "tuple", data := PySem.Data.seq #[] }
noncomputable def o116_0 (p : Program) (P : Params) : Obj := { cls := PySem.Value.none, data := PySem.Data.fields #[] }
noncomputable def o117_0 (p : Program) (P : Params) : Obj := { cls := PySem.Value.type "tuple", data := PySem.Data.seq #[PySem.Value.str (PySem.Str.ofString "self") 337] }
noncomputable def o118_0 (p : Program) (P : Params) : Obj := { cls := PySem.Value.type "tuple", data := PySem.Data.seq #[] }
noncomputable def o119_0 (p : Program) (P : Params) : Obj := { cls := PySem.Value.none, data := PySem.Data.func { name := PySem.Str.ofString "__getnewargs__", qualname := PySem.Str.ofString "Match.__getnewargs__", params := fa_3_10 p, body := PySem.FuncBody.stmts (fb_3_10 p), scope := fs_3_10 p, globals := 0, closure := [], defaults := PySem.Value.none, kwdefaults := PySem.Value.none } }
noncomputable def o120_0 (p : Program) (P : Params) : Obj := { cls := PySem.Value.type "code", data := PySem.Data.fields #[PySem.Value.str (PySem.Str.ofString "__getnewargs__") 334, PySem.Value.str (PySem.Str.ofString "Match.__getnewargs__") 335, PySem.Value.str (PySem.Str.ofString "/claim/cut.py") 336, PySem.Value.int 59 0, PySem.Value.int 1 0, PySem.Value.int 0 0, PySem.Value.int 0 0, PySem.Value.int 3 0, PySem.Value.ref 115, PySem.Value.bool Bool.true, PySem.Value.int 181 0, PySem.Value.ref 116, PySem.Value.none, PySem.Value.ref 117, PySem.Value.ref 118, PySem.Value.ref 119, PySem.Value.int 338 0, PySem.Value.int 59 0, PySem.Value.str (PySem.Str.ofString "/claim/cut.py") 339] }
noncomputable def o121_0 (p : Program) (P : Params) : Obj := { cls := PySem.Value.type "function", data := PySem.Data.func { name := PySem.Str.ofString "__getnewargs__", qualname := PySem.Str.ofString "Match.__getnewargs__", params := fa_3_10 p, body := PySem.FuncBody.stmts (fb_3_10 p), scope := fs_3_10 p, globals := 3, closure := [], defaults := PySem.Value.none, kwdefaults := PySem.Value.none, doc := PySem.Value.str (fd_3_10 p) 340, pyModule := PySem.Value.str (PySem.Str.ofString "cpy313.difflib") 194, code := PySem.Value.ref 120 } }
noncomputable def o122_0 (p : Program) (P : Params) : Obj := { cls := PySem.Value.type "tuple", data := PySem.Data.seq #[PySem.Value.str (PySem.Str.ofString "a") 342, PySem.Value.str (PySem.Str.ofString "b") 343, PySem.Value.str (PySem.Str.ofString "size") 344] }
noncomputable def o123_0 (p : Program) (P : Params) : Obj := { cls := PySem.Value.type "dict", data := PySem.Data.dict #[{ hash := PySem.PyData.keyHash P (PySem.Str.ofString "index"), key := PySem.Value.str (PySem.Str.ofString "index") 352, val := PySem.Value.int 0 346 }, { hash := PySem.PyData.keyHash P (PySem.Str.ofString "__doc__"), key := PySem.Value.str (PySem.Str.ofString "__doc__") 354, val := PySem.Value.str (PySem.Str.ofString "Alias for field number 0") 347 }] 2 }
noncomputable def o124_0 (p : Program) (P : Params) : Obj := { cls := PySem.Value.ref 60, dict := Option.some 123 }
noncomputable def o125_0 (p : Program) (P : Params) : Obj := { cls := PySem.Value.type "frame", data := PySem.Data.dict #[{ hash := PySem.PyData.keyHash P (PySem.Str.ofString "self"), key := PySem.Value.str (PySem.Str.ofString "self") 348, val := PySem.Value.ref 124 }, { hash := PySem.PyData.keyHash P (PySem.Str.ofString "index"), key := PySem.Value.str (PySem.Str.ofString "index") 349, val := PySem.Value.int 0 346 }, { hash := PySem.PyData.keyHash P (PySem.Str.ofString "doc"), key := PySem.Value.str (PySem.Str.ofString "doc") 350, val := PySem.Value.str (PySem.Str.ofString "Alias for field number 0") 347 }] 3 }
noncomputable def o126_0 (p : Program) (P : Params) : Obj := { cls := PySem.Value.type "dict", data := PySem.Data.dict #[{ hash := PySem.PyData.keyHash P (PySem.Str.ofString "index"), key := PySem.Value.str (PySem.Str.ofString "index") 362, val := PySem.Value.int 1 356 }, { hash := PySem.PyData.keyHash P (PySem.Str.ofString "__doc__"), key := PySem.Value.str (PySem.Str.ofString "__doc__") 364, val := PySem.Value.str (PySem.Str.ofString "Alias for field number 1") 357 }] 2 }
noncomputable def o127_0 (p : Program) (P : Params) : Obj := { cls := PySem.Value.ref 60, dict := Option.some 126 }
noncomputable def o128_0 (p : Program) (P : Params) : Obj := { cls := PySem.Value.type "frame", data := PySem.Data.dict #[{ hash := PySem.PyData.keyHash P (PySem.Str.ofString "self"), key := PySem.Value.str (PySem.Str.ofString "self") 358, val := PySem.Value.ref 127 }, { hash := PySem.PyData.keyHash P (PySem.Str.ofString "index"), key := PySem.Value.str (PySem.Str.ofString "index") 359, val := PySem.Value.int 1 356 }, { hash := PySem.PyData.keyHash P (PySem.Str.ofString "doc"), key := PySem.Value.str (PySem.Str.ofString "doc") 360, val := PySem.Value.str (PySem.Str.ofString "Alias for field number 1") 357 }] 3 }
noncomputable def o129_0 (p : Program) (P : Params) : Obj := { cls := PySem.Value.type "dict", data := PySem.Data.dict #[{ hash := PySem.PyData.keyHash P (PySem.Str.ofString "index"), key := PySem.Value.str (PySem.Str.ofString "index") 372, val := PySem.Value.int 2 366 }, { hash := PySem.PyData.keyHash P (PySem.Str.ofString "__doc__"), key := PySem.Value.str (PySem.Str.ofString "__doc__") 374, val := PySem.Value.str (PySem.Str.ofString "Alias for field number 2") 367 }] 2 }
noncomputable def o130_0 (p : Program) (P : Params) : Obj := { cls := PySem.Value.ref 60, dict := Option.some 129 }
noncomputable def o131_0 (p : Program) (P : Params) : Obj := { cls := PySem.Value.type "frame", data := PySem.Data.dict #[{ hash := PySem.PyData.keyHash P (PySem.Str.ofString "self"), key := PySem.Value.str (PySem.Str.ofString "self") 368, val := PySem.Value.ref 130 }, { hash := PySem.PyData.keyHash P (PySem.Str.ofString "index"), key := PySem.Value.str (PySem.Str.ofString "index") 369, val := PySem.Value.int 2 366 }, { hash := PySem.PyData.keyHash P (PySem.Str.ofString "doc"), key := PySem.Value.str (PySem.Str.ofString "doc") 370, val := PySem.Value.str (PySem.Str.ofString "Alias for field number 2") 367 }] 3 }
noncomputable def o132_0 (p : Program) (P : Params) : Obj := { cls := PySem.Value.type "tuple", data := PySem.Data.seq #[] }
noncomputable def o133_0 (p : Program) (P : Params) : Obj := { cls := PySem.Value.type "list", data := PySem.Data.seq #[] }
noncomputable def o134_0 (p : Program) (P : Params) : Obj := { cls := PySem.Value.type "dict", data := PySem.Data.dict #[{ hash := PySem.PyData.keyHash P (PySem.Str.ofString "__module__"), key := PySem.Value.str (PySem.Str.ofString "__module__") 260, val := PySem.Value.str (PySem.Str.ofString "cpy313.difflib") 194 }, { hash := PySem.PyData.keyHash P (PySem.Str.ofString "__firstlineno__"), key := PySem.Value.str (PySem.Str.ofString "__firstlineno__") 264, val := PySem.Value.int 23 263 }, { hash := PySem.PyData.keyHash P (PySem.Str.ofString "__doc__"), key := PySem.Value.str (PySem.Str.ofString "__doc__") 266, val := PySem.Value.str (fd_3 p) 265 }, { hash := PySem.PyData.keyHash P (PySem.Str.ofString "__slots__"), key := PySem.Value.str (PySem.Str.ofString "__slots__") 268, val := PySem.Value.ref 73 }, { hash := PySem.PyData.keyHash P (PySem.Str.ofString "_fields"), key := PySem.Value.str (PySem.Str.ofString "_fields") 272, val := PySem.Value.ref 74 }, { hash := PySem.PyData.keyHash P (PySem.Str.ofString "_field_defaults"), key := PySem.Value.str (PySem.Str.ofString "_field_defaults") 273, val := PySem.Value.ref 75 }, { hash := PySem.PyData.keyHash P (PySem.Str.ofString "__new__"), key := PySem.Value.str (PySem.Str.ofString "__new__") 284, val := PySem.Value.ref 136 }, { hash := PySem.PyData.keyHash P (PySem.Str.ofString "_make"), key := PySem.Value.str (PySem.Str.ofString "_make") 306, val := PySem.Value.ref 91 }, { hash := PySem.PyData.keyHash P (PySem.Str.ofString "_replace"), key := PySem.Value.str (PySem.Str.ofString "_replace") 317, val := PySem.Value.ref 100 }, { hash := PySem.PyData.keyHash P (PySem.Str.ofString "__replace__"), key := PySem.Value.str (PySem.Str.ofString "__replace__") 318, val := PySem.Value.ref 100 }, { hash := PySem.PyData.keyHash P (PySem.Str.ofString "__repr__"), key := PySem.Value.str (PySem.Str.ofString "__repr__") 326, val := PySem.Value.ref 107 }, { hash := PySem.PyData.keyHash P (PySem.Str.ofString "_asdict"), key := PySem.Value.str (PySem.Str.ofString "_asdict") 333, val := PySem.Value.ref 114 }, { hash := PySem.PyData.keyHash P (PySem.Str.ofString "__getnewargs__"), key := PySem.Value.str (PySem.Str.ofString "__getnewargs__") 341, val := PySem.Value.ref 121 }, { hash := PySem.PyData.keyHash P (PySem.Str.ofString "__match_args__"), key := PySem.Value.str (PySem.Str.ofString "__match_args__") 345, val := PySem.Value.ref 122 }, { hash := PySem.PyData.keyHash P (PySem.Str.ofString "a"), key := PySem.Value.str (PySem.Str.ofString "a") 355, val := PySem.Value.ref 124 }, { hash := PySem.PyData.keyHash P (PySem.Str.ofString "b"), key := PySem.Value.str (PySem.Str.ofString "b") 365, val := PySem.Value.ref 127 }, { hash := PySem.PyData.keyHash P (PySem.Str.ofString "size"), key := PySem.Value.str (PySem.Str.ofString "size") 375, val := PySem.Value.ref 130 }, { hash := PySem.PyData.keyHash P (PySem.Str.ofString "__static_attributes__"), key := PySem.Value.str (PySem.Str.ofString "__static_attributes__") 376, val := PySem.Value.ref 132 }] 2 }
noncomputable def o135_0 (p : Program) (P : Params) : Obj := { cls := PySem.Value.type "type", data := PySem.Data.cls { name := PySem.Str.ofString "Match", bases := [PySem.Value.type "tuple"], mro := [PySem.Value.ref 135, PySem.Value.type "tuple", PySem.Value.type "object"], ns := 134, qualname := PySem.Str.ofString "Match", hasDict := Bool.false }, slots := #[Option.some (PySem.Value.ref 65), Option.none, Option.some (PySem.Value.str (PySem.Str.ofString "Match") 253), Option.some (PySem.Value.str (PySem.Str.ofString "Match") 261), Option.some PySem.Value.none, Option.some (PySem.Value.bool Bool.false)] }
noncomputable def o136_0 (p : Program) (P : Params) : Obj := { cls := PySem.Value.type "staticmethod", data := PySem.Data.fields #[PySem.Value.ref 82] }
noncomputable def o137_0 (p : Program) (P : Params) : Obj := { cls := PySem.Value.type "super", data := PySem.Data.fields #[PySem.Value.ref 135, PySem.Value.ref 135, PySem.Value.ref 135] }
noncomputable def o138_0 (p : Program) (P : Params) : Obj := { cls := PySem.Value.type "builtin_function_or_method", data := PySem.Data.fields #[PySem.Value.builtin "object.__init_subclass__", PySem.Value.ref 135] }
noncomputable def t2 (p : Program) (P : Params) : BT := (.node (PySem.W.boot_o_0 P) (.node (PySem.W.boot_o_1 P) (.node (o3_1 p P) (.node (PySem.W.boot_o_7 P) (.node (o15_0 p P) (.node (o31_0 p P) (.node (o63_0 p P) (.node (o127_0 p P) .nil .nil) .nil) (.node (o95_0 p P) .nil .nil)) (.node (o47_0 p P) (.node (o79_0 p P) .nil .nil) (.node (o111_0 p P) .nil .nil))) (.node (o23_0 p P) (.node (o39_0 p P) (.node (o71_0 p P) (.node (o135_0 p P) .nil .nil) .nil) (.node (o103_0 p P) .nil .nil)) (.node (o55_0 p P) (.node (o87_0 p P) .nil .nil) (.node (o119_0 p P) .nil .nil)))) (.node (o11_0 p P) (.node (o19_0 p P) (.node (o35_0 p P) (.node (o67_0 p P) (.node (o131_0 p P) .nil .nil) .nil) (.node (o99_0 p P) .nil .nil)) (.node (o51_0 p P) (.node (o83_0 p P) .nil .nil) (.node (o115_0 p P) .nil .nil))) (.node (o27_0 p P) (.node (o43_0 p P) (.node (o75_0 p P) .nil .nil) (.node (o107_0 p P) .nil .nil)) (.node (o59_0 p P) (.node (o91_0 p P) .nil .nil) (.node (o123_0 p P) .nil .nil))))) (.node (PySem.W.boot_o_5 P) (.node (PySem.W.boot_o_9 P) (.node (o17_0 p P) (.node (o33_0 p P) (.node (o65_0 p P) (.node (o129_0 p P) .nil .nil) .nil) (.node (o97_0 p P) .nil .nil)) (.node (o49_0 p P) (.node (o81_0 p P) .nil .nil) (.node (o113_0 p P) .nil .nil))) (.node (o25_0 p P) (.node (o41_0 p P) (.node (o73_0 p P) (.node (o137_0 p P) .nil .nil) .nil) (.node (o105_0 p P) .nil .nil)) (.node (o57_0 p P) (.node (o89_0 p P) .nil .nil) (.node (o121_0 p P) .nil .nil)))) (.node (o13_0 p P) (.node (o21_0 p P) (.node (o37_0 p P) (.node (o69_0 p P) (.node (o133_0 p P) .nil .nil) .nil) (.node (o101_0 p P) .nil .nil)) (.node (o53_0 p P) (.node (o85_0 p P) .nil .nil) (.node (o117_0 p P) .nil .nil))) (.node (o29_0 p P) (.node (o45_0 p P) (.node (o77_0 p P) .nil .nil) (.node (o109_0 p P) .nil .nil)) (.node (o61_0 p P) (.node (o93_0 p P) .nil .nil) (.node (o125_0 p P) .nil .nil)))))) (.node (PySem.W.boot_o_2 P) (.node (PySem.W.boot_o_4 P) (.node (PySem.W.boot_o_8 P) (.node (o16_0 p P) (.node (o32_0 p P) (.node (o64_0 p P) (.node (o128_0 p P) .nil .nil) .nil) (.node (o96_0 p P) .nil .nil)) (.node (o48_0 p P) (.node (o80_0 p P) .nil .nil) (.node (o112_0 p P) .nil .nil))) (.node (o24_0 p P) (.node (o40_0 p P) (.node (o72_0 p P) (.node (o136_0 p P) .nil .nil) .nil) (.node (o104_0 p P) .nil .nil)) (.node (o56_0 p P) (.node (o88_0 p P) .nil .nil) (.node (o120_0 p P) .nil .nil)))) (.node (o12_2 p P) (.node (o20_0 p P) (.node (o36_0 p P) (.node (o68_0 p P) (.node (o132_0 p P) .nil .nil) .nil) (.node (o100_0 p P) .nil .nil)) (.node (o52_0 p P) (.node (o84_0 p P) .nil .nil) (.node (o116_0 p P) .nil .nil))) (.node (o28_0 p P) (.node (o44_0 p P) (.node (o76_0 p P) .nil .nil) (.node (o108_0 p P) .nil .nil)) (.node (o60_0 p P) (.node (o92_0 p P) .nil .nil) (.node (o124_0 p P) .nil .nil))))) (.node (PySem.W.boot_o_6 P) (.node (PySem.W.boot_o_10 P) (.node (o18_0 p P) (.node (o34_0 p P) (.node (o66_0 p P) (.node (o130_0 p P) .nil .nil) .nil) (.node (o98_0 p P) .nil .nil)) (.node (o50_0 p P) (.node (o82_0 p P) .nil .nil) (.node (o114_0 p P) .nil .nil))) (.node (o26_0 p P) (.node (o42_0 p P) (.node (o74_0 p P) (.node (o138_0 p P) .nil .nil) .nil) (.node (o106_0 p P) .nil .nil)) (.node (o58_0 p P) (.node (o90_0 p P) .nil .nil) (.node (o122_0 p P) .nil .nil)))) (.node (o14_0 p P) (.node (o22_0 p P) (.node (o38_0 p P) (.node (o70_0 p P) (.node (o134_0 p P) .nil .nil) .nil) (.node (o102_0 p P) .nil .nil)) (.node (o54_0 p P) (.node (o86_0 p P) .nil .nil) (.node (o118_0 p P) .nil .nil))) (.node (o30_0 p P) (.node (o46_0 p P) (.node (o78_0 p P) .nil .nil) (.node (o110_0 p P) .nil .nil)) (.node (o62_0 p P) (.node (o94_0 p P) .nil .nil) (.node (o126_0 p P) .nil .nil)))))))
noncomputable def S2 (w : World) (os : OsState) : SharedT := ⟨t2 pw w.params, 139, life, Array.mk [], drawn, 381, os⟩
noncomputable def o3_2 (p : Program) (P : Params) : Obj := { cls := PySem.Value.type "dict", data := PySem.Data.dict #[{ hash := PySem.PyData.keyHash P (PySem.Str.ofString "__name__"), key := PySem.Value.str (PySem.Str.ofString "__name__") 165, val := PySem.Value.str (PySem.Str.ofString "cpy313.difflib") 194 }, { hash := PySem.PyData.keyHash P (PySem.Str.ofString "__doc__"), key := PySem.Value.str (PySem.Str.ofString "__doc__") 166, val := PySem.Value.none }, { hash := PySem.PyData.keyHash P (PySem.Str.ofString "__package__"), key := PySem.Value.str (PySem.Str.ofString "__package__") 167, val := PySem.Value.none }, { hash := PySem.PyData.keyHash P (PySem.Str.ofString "__loader__"), key := PySem.Value.str (PySem.Str.ofString "__loader__") 168, val := PySem.Value.builtin "__main__.__loader__#opaque" }, { hash := PySem.PyData.keyHash P (PySem.Str.ofString "__spec__"), key := PySem.Value.str (PySem.Str.ofString "__spec__") 169, val := PySem.Value.none }, { hash := PySem.PyData.keyHash P (PySem.Str.ofString "__annotations__"), key := PySem.Value.str (PySem.Str.ofString "__annotations__") 170, val := PySem.Value.ref 6 }, { hash := PySem.PyData.keyHash P (PySem.Str.ofString "__builtins__"), key := PySem.Value.str (PySem.Str.ofString "__builtins__") 171, val := PySem.Value.ref 4 }, { hash := PySem.PyData.keyHash P (PySem.Str.ofString "__file__"), key := PySem.Value.str (PySem.Str.ofString "__file__") 173, val := PySem.Value.str (PySem.Str.ofString "/claim/cut.py") 172 }, { hash := PySem.PyData.keyHash P (PySem.Str.ofString "__cached__"), key := PySem.Value.str (PySem.Str.ofString "__cached__") 174, val := PySem.Value.none }, { hash := PySem.PyData.keyHash P (PySem.Str.ofString "_wall"), key := PySem.Value.str (PySem.Str.ofString "_wall") 193, val := PySem.Value.ref 21 }, { hash := PySem.PyData.keyHash P (PySem.Str.ofString "_tuplegetter"), key := PySem.Value.str (PySem.Str.ofString "_tuplegetter") 252, val := PySem.Value.ref 60 }, { hash := PySem.PyData.keyHash P (PySem.Str.ofString "Match"), key := PySem.Value.str (PySem.Str.ofString "Match") 380, val := PySem.Value.ref 135 }, { hash := PySem.PyData.keyHash P (PySem.Str.ofString "_calculate_ratio"), key := PySem.Value.str (PySem.Str.ofString "_calculate_ratio") 388, val := PySem.Value.ref 145 }] 13 }
noncomputable def o12_3 (p : Program) (P : Params) : Obj := { cls := PySem.Value.none, data := PySem.Data.fields #[PySem.Value.int 1 0, PySem.Value.int 0 0, PySem.Value.ref 20, PySem.Value.int 5 0, PySem.Value.int 0 0, PySem.Value.ref 27, PySem.Value.int 23 0, PySem.Value.int 0 0, PySem.Value.ref 71, PySem.Value.int 66 0, PySem.Value.int 0 0, PySem.Value.ref 144] }
noncomputable def o139_0 (p : Program) (P : Params) : Obj := { cls := PySem.Value.type "tuple", data := PySem.Data.seq #[] }
noncomputable def o140_0 (p : Program) (P : Params) : Obj := { cls := PySem.Value.none, data := PySem.Data.fields #[] }
noncomputable def o141_0 (p : Program) (P : Params) : Obj := { cls := PySem.Value.type "tuple", data := PySem.Data.seq #[PySem.Value.str (PySem.Str.ofString "matches") 384, PySem.Value.str (PySem.Str.ofString "length") 385] }
noncomputable def o142_0 (p : Program) (P : Params) : Obj := { cls := PySem.Value.type "tuple", data := PySem.Data.seq #[] }
noncomputable def o143_0 (p : Program) (P : Params) : Obj := { cls := PySem.Value.none, data := PySem.Data.func { name := PySem.Str.ofString "_calculate_ratio", qualname := PySem.Str.ofString "_calculate_ratio", params := fa_4 p, body := PySem.FuncBody.stmts (fb_4 p), scope := fs_4 p, globals := 0, closure := [], defaults := PySem.Value.none, kwdefaults := PySem.Value.none } }
noncomputable def o144_0 (p : Program) (P : Params) : Obj := { cls := PySem.Value.type "code", data := PySem.Data.fields #[PySem.Value.str (PySem.Str.ofString "_calculate_ratio") 381, PySem.Value.str (PySem.Str.ofString "_calculate_ratio") 382, PySem.Value.str (PySem.Str.ofString "/claim/cut.py") 383, PySem.Value.int 66 0, PySem.Value.int 2 0, PySem.Value.int 0 0, PySem.Value.int 0 0, PySem.Value.int 3 0, PySem.Value.ref 139, PySem.Value.bool Bool.true, PySem.Value.int 181 0, PySem.Value.ref 140, PySem.Value.none, PySem.Value.ref 141, PySem.Value.ref 142, PySem.Value.ref 143, PySem.Value.int 386 0, PySem.Value.int 66 0, PySem.Value.str (PySem.Str.ofString "/claim/cut.py") 387] }
noncomputable def o145_0 (p : Program) (P : Params) : Obj := { cls := PySem.Value.type "function", data := PySem.Data.func { name := PySem.Str.ofString "_calculate_ratio", qualname := PySem.Str.ofString "_calculate_ratio", params := fa_4 p, body := PySem.FuncBody.stmts (fb_4 p), scope := fs_4 p, globals := 3, closure := [], defaults := PySem.Value.none, kwdefaults := PySem.Value.none, pyModule := PySem.Value.str (PySem.Str.ofString "cpy313.difflib") 194, code := PySem.Value.ref 144 } }
noncomputable def t3 (p : Program) (P : Params) : BT := (.node (PySem.W.boot_o_0 P) (.node (PySem.W.boot_o_1 P) (.node (o3_2 p P) (.node (PySem.W.boot_o_7 P) (.node (o15_0 p P) (.node (o31_0 p P) (.node (o63_0 p P) (.node (o127_0 p P) .nil .nil) .nil) (.node (o95_0 p P) .nil .nil)) (.node (o47_0 p P) (.node (o79_0 p P) (.node (o143_0 p P) .nil .nil) .nil) (.node (o111_0 p P) .nil .nil))) (.node (o23_0 p P) (.node (o39_0 p P) (.node (o71_0 p P) (.node (o135_0 p P) .nil .nil) .nil) (.node (o103_0 p P) .nil .nil)) (.node (o55_0 p P) (.node (o87_0 p P) .nil .nil) (.node (o119_0 p P) .nil .nil)))) (.node (o11_0 p P) (.node (o19_0 p P) (.node (o35_0 p P) (.node (o67_0 p P) (.node (o131_0 p P) .nil .nil) .nil) (.node (o99_0 p P) .nil .nil)) (.node (o51_0 p P) (.node (o83_0 p P) .nil .nil) (.node (o115_0 p P) .nil .nil))) (.node (o27_0 p P) (.node (o43_0 p P) (.node (o75_0 p P) (.node (o139_0 p P) .nil .nil) .nil) (.node (o107_0 p P) .nil .nil)) (.node (o59_0 p P) (.node (o91_0 p P) .nil .nil) (.node (o123_0 p P) .nil .nil))))) (.node (PySem.W.boot_o_5 P) (.node (PySem.W.boot_o_9 P) (.node (o17_0 p P) (.node (o33_0 p P) (.node (o65_0 p P) (.node (o129_0 p P) .nil .nil) .nil) (.node (o97_0 p P) .nil .nil)) (.node (o49_0 p P) (.node (o81_0 p P) (.node (o145_0 p P) .nil .nil) .nil) (.node (o113_0 p P) .nil .nil))) (.node (o25_0 p P) (.node (o41_0 p P) (.node (o73_0 p P) (.node (o137_0 p P) .nil .nil) .nil) (.node (o105_0 p P) .nil .nil)) (.node (o57_0 p P) (.node (o89_0 p P) .nil .nil) (.node (o121_0 p P) .nil .nil)))) (.node (o13_0 p P) (.node (o21_0 p P) (.node (o37_0 p P) (.node (o69_0 p P) (.node (o133_0 p P) .nil .nil) .nil) (.node (o101_0 p P) .nil .nil)) (.node (o53_0 p P) (.node (o85_0 p P) .nil .nil) (.node (o117_0 p P) .nil .nil))) (.node (o29_0 p P) (.node (o45_0 p P) (.node (o77_0 p P) (.node (o141_0 p P) .nil .nil) .nil) (.node (o109_0 p P) .nil .nil)) (.node (o61_0 p P) (.node (o93_0 p P) .nil .nil) (.node (o125_0 p P) .nil .nil)))))) (.node (PySem.W.boot_o_2 P) (.node (PySem.W.boot_o_4 P) (.node (PySem.W.boot_o_8 P) (.node (o16_0 p P) (.node (o32_0 p P) (.node (o64_0 p P) (.node (o128_0 p P) .nil .nil) .nil) (.node (o96_0 p P) .nil .nil)) (.node (o48_0 p P) (.node (o80_0 p P) (.node (o144_0 p P) .nil .nil) .nil) (.node (o112_0 p P) .nil .nil))) (.node (o24_0 p P) (.node (o40_0 p P) (.node (o72_0 p P) (.node (o136_0 p P) .nil .nil) .nil) (.node (o104_0 p P) .nil .nil)) (.node (o56_0 p P) (.node (o88_0 p P) .nil .nil) (.node (o120_0 p P) .nil .nil)))) (.node (o12_3 p P) (.node (o20_0 p P) (.node (o36_0 p P) (.node (o68_0 p P) (.node (o132_0 p P) .nil .nil) .nil) (.node (o100_0 p P) .nil .nil)) (.node (o52_0 p P) (.node (o84_0 p P) .nil .nil) (.node (o116_0 p P) .nil .nil))) (.node (o28_0 p P) (.node (o44_0 p P) (.node (o76_0 p P) (.node (o140_0 p P) .nil .nil) .nil) (.node (o108_0 p P) .nil .nil)) (.node (o60_0 p P) (.node (o92_0 p P) .nil .nil) (.node (o124_0 p P) .nil .nil))))) (.node (PySem.W.boot_o_6 P) (.node (PySem.W.boot_o_10 P) (.node (o18_0 p P) (.node (o34_0 p P) (.node (o66_0 p P) (.node (o130_0 p P) .nil .nil) .nil) (.node (o98_0 p P) .nil .nil)) (.node (o50_0 p P) (.node (o82_0 p P) .nil .nil) (.node (o114_0 p P) .nil .nil))) (.node (o26_0 p P) (.node (o42_0 p P) (.node (o74_0 p P) (.node (o138_0 p P) .nil .nil) .nil) (.node (o106_0 p P) .nil .nil)) (.node (o58_0 p P) (.node (o90_0 p P) .nil .nil) (.node (o122_0 p P) .nil .nil)))) (.node (o14_0 p P) (.node (o22_0 p P) (.node (o38_0 p P) (.node (o70_0 p P) (.node (o134_0 p P) .nil .nil) .nil) (.node (o102_0 p P) .nil .nil)) (.node (o54_0 p P) (.node (o86_0 p P) .nil .nil) (.node (o118_0 p P) .nil .nil))) (.node (o30_0 p P) (.node (o46_0 p P) (.node (o78_0 p P) (.node (o142_0 p P) .nil .nil) .nil) (.node (o110_0 p P) .nil .nil)) (.node (o62_0 p P) (.node (o94_0 p P) .nil .nil) (.node (o126_0 p P) .nil .nil)))))))
noncomputable def S3 (w : World) (os : OsState) : SharedT := ⟨t3 pw w.params, 146, life, Array.mk [], drawn, 389, os⟩
noncomputable def o3_3 (p : Program) (P : Params) : Obj := { cls := PySem.Value.type "dict", data := PySem.Data.dict #[{ hash := PySem.PyData.keyHash P (PySem.Str.ofString "__name__"), key := PySem.Value.str (PySem.Str.ofString "__name__") 165, val := PySem.Value.str (PySem.Str.ofString "cpy313.difflib") 194 }, { hash := PySem.PyData.keyHash P (PySem.Str.ofString "__doc__"), key := PySem.Value.str (PySem.Str.ofString "__doc__") 166, val := PySem.Value.none }, { hash := PySem.PyData.keyHash P (PySem.Str.ofString "__package__"), key := PySem.Value.str (PySem.Str.ofString "__package__") 167, val := PySem.Value.none }, { hash := PySem.PyData.keyHash P (PySem.Str.ofString "__loader__"), key := PySem.Value.str (PySem.Str.ofString "__loader__") 168, val := PySem.Value.builtin "__main__.__loader__#opaque" }, { hash := PySem.PyData.keyHash P (PySem.Str.ofString "__spec__"), key := PySem.Value.str (PySem.Str.ofString "__spec__") 169, val := PySem.Value.none }, { hash := PySem.PyData.keyHash P (PySem.Str.ofString "__annotations__"), key := PySem.Value.str (PySem.Str.ofString "__annotations__") 170, val := PySem.Value.ref 6 }, { hash := PySem.PyData.keyHash P (PySem.Str.ofString "__builtins__"), key := PySem.Value.str (PySem.Str.ofString "__builtins__") 171, val := PySem.Value.ref 4 }, { hash := PySem.PyData.keyHash P (PySem.Str.ofString "__file__"), key := PySem.Value.str (PySem.Str.ofString "__file__") 173, val := PySem.Value.str (PySem.Str.ofString "/claim/cut.py") 172 }, { hash := PySem.PyData.keyHash P (PySem.Str.ofString "__cached__"), key := PySem.Value.str (PySem.Str.ofString "__cached__") 174, val := PySem.Value.none }, { hash := PySem.PyData.keyHash P (PySem.Str.ofString "_wall"), key := PySem.Value.str (PySem.Str.ofString "_wall") 193, val := PySem.Value.ref 21 }, { hash := PySem.PyData.keyHash P (PySem.Str.ofString "_tuplegetter"), key := PySem.Value.str (PySem.Str.ofString "_tuplegetter") 252, val := PySem.Value.ref 60 }, { hash := PySem.PyData.keyHash P (PySem.Str.ofString "Match"), key := PySem.Value.str (PySem.Str.ofString "Match") 380, val := PySem.Value.ref 135 }, { hash := PySem.PyData.keyHash P (PySem.Str.ofString "_calculate_ratio"), key := PySem.Value.str (PySem.Str.ofString "_calculate_ratio") 388, val := PySem.Value.ref 145 }, { hash := PySem.PyData.keyHash P (PySem.Str.ofString "SequenceMatcher"), key := PySem.Value.str (PySem.Str.ofString "SequenceMatcher") 592, val := PySem.Value.ref 242 }] 14 }
noncomputable def o12_4 (p : Program) (P : Params) : Obj := { cls := PySem.Value.none, data := PySem.Data.fields #[PySem.Value.int 1 0, PySem.Value.int 0 0, PySem.Value.ref 20, PySem.Value.int 5 0, PySem.Value.int 0 0, PySem.Value.ref 27, PySem.Value.int 23 0, PySem.Value.int 0 0, PySem.Value.ref 71, PySem.Value.int 66 0, PySem.Value.int 0 0, PySem.Value.ref 144, PySem.Value.int 70 0, PySem.Value.int 0 0, PySem.Value.ref 151] }
noncomputable def o146_0 (p : Program) (P : Params) : Obj := { cls := PySem.Value.type "tuple", data := PySem.Data.seq #[] }
noncomputable def o147_0 (p : Program) (P : Params) : Obj := { cls := PySem.Value.type "builtin_function_or_method", data := PySem.Data.fields #[PySem.Value.builtin "type.__prepare__", PySem.Value.type "type"] }
noncomputable def o148_0 (p : Program) (P : Params) : Obj := { cls := PySem.Value.type "dict", data := PySem.Data.dict #[{ hash := PySem.PyData.keyHash P (PySem.Str.ofString "__module__"), key := PySem.Value.str (PySem.Str.ofString "__module__") 396, val := PySem.Value.str (PySem.Str.ofString "cpy313.difflib") 194 }, { hash := PySem.PyData.keyHash P (PySem.Str.ofString "__qualname__"), key := PySem.Value.str (PySem.Str.ofString "__qualname__") 398, val := PySem.Value.str (PySem.Str.ofString "SequenceMatcher") 397 }, { hash := PySem.PyData.keyHash P (PySem.Str.ofString "__firstlineno__"), key := PySem.Value.str (PySem.Str.ofString "__firstlineno__") 400, val := PySem.Value.int 70 399 }, { hash := PySem.PyData.keyHash P (PySem.Str.ofString "__doc__"), key := PySem.Value.str (PySem.Str.ofString "__doc__") 402, val := PySem.Value.str (fd_5 p) 401 }, { hash := PySem.PyData.keyHash P (PySem.Str.ofString "__init__"), key := PySem.Value.str (PySem.Str.ofString "__init__") 417, val := PySem.Value.ref 160 }, { hash := PySem.PyData.keyHash P (PySem.Str.ofString "set_seqs"), key := PySem.Value.str (PySem.Str.ofString "set_seqs") 427, val := PySem.Value.ref 167 }, { hash := PySem.PyData.keyHash P (PySem.Str.ofString "set_seq1"), key := PySem.Value.str (PySem.Str.ofString "set_seq1") 436, val := PySem.Value.ref 174 }, { hash := PySem.PyData.keyHash P (PySem.Str.ofString "set_seq2"), key := PySem.Value.str (PySem.Str.ofString "set_seq2") 445, val := PySem.Value.ref 181 }, { hash := PySem.PyData.keyHash P (PySem.Str.ofString "_SequenceMatcher__chain_b"), key := PySem.Value.str (PySem.Str.ofString "_SequenceMatcher__chain_b") 463, val := PySem.Value.ref 188 }, { hash := PySem.PyData.keyHash P (PySem.Str.ofString "find_longest_match"), key := PySem.Value.str (PySem.Str.ofString "find_longest_match") 491, val := PySem.Value.ref 196 }, { hash := PySem.PyData.keyHash P (PySem.Str.ofString "get_matching_blocks"), key := PySem.Value.str (PySem.Str.ofString "get_matching_blocks") 518, val := PySem.Value.ref 203 }, { hash := PySem.PyData.keyHash P (PySem.Str.ofString "get_opcodes"), key := PySem.Value.str (PySem.Str.ofString "get_opcodes") 533, val := PySem.Value.ref 210 }, { hash := PySem.PyData.keyHash P (PySem.Str.ofString "get_grouped_opcodes"), key := PySem.Value.str (PySem.Str.ofString "get_grouped_opcodes") 542, val := PySem.Value.ref 218 }, { hash := PySem.PyData.keyHash P (PySem.Str.ofString "ratio"), key := PySem.Value.str (PySem.Str.ofString "ratio") 551, val := PySem.Value.ref 225 }, { hash := PySem.PyData.keyHash P (PySem.Str.ofString "quick_ratio"), key := PySem.Value.str (PySem.Str.ofString "quick_ratio") 565, val := PySem.Value.ref 232 }, { hash := PySem.PyData.keyHash P (PySem.Str.ofString "real_quick_ratio"), key := PySem.Value.str (PySem.Str.ofString "real_quick_ratio") 575, val := PySem.Value.ref 239 }, { hash := PySem.PyData.keyHash P (PySem.Str.ofString "__static_attributes__"), key := PySem.Value.str (PySem.Str.ofString "__static_attributes__") 586, val := PySem.Value.ref 240 }] 17 }
noncomputable def o149_0 (p : Program) (P : Params) : Obj := { cls := PySem.Value.type "tuple", data := PySem.Data.seq #[] }
noncomputable def o150_0 (p : Program) (P : Params) : Obj := { cls := PySem.Value.none, data := PySem.Data.fields #[PySem.Value.int 145 0, PySem.Value.int 4 0, PySem.Value.ref 159, PySem.Value.int 173 0, PySem.Value.int 4 0, PySem.Value.ref 166, PySem.Value.int 184 0, PySem.Value.int 4 0, PySem.Value.ref 173, PySem.Value.int 209 0, PySem.Value.int 4 0, PySem.Value.ref 180, PySem.Value.int 236 0, PySem.Value.int 4 0, PySem.Value.ref 187, PySem.Value.int 260 0, PySem.Value.int 4 0, PySem.Value.ref 195, PySem.Value.int 335 0, PySem.Value.int 4 0, PySem.Value.ref 202, PySem.Value.int 383 0, PySem.Value.int 4 0, PySem.Value.ref 209, PySem.Value.int 430 0, PySem.Value.int 4 0, PySem.Value.ref 217, PySem.Value.int 433 0, PySem.Value.int 4 0, PySem.Value.ref 224, PySem.Value.int 457 0, PySem.Value.int 4 0, PySem.Value.ref 231, PySem.Value.int 480 0, PySem.Value.int 4 0, PySem.Value.ref 238] }
noncomputable def o151_0 (p : Program) (P : Params) : Obj := { cls := PySem.Value.type "code", data := PySem.Data.fields #[PySem.Value.str (PySem.Str.ofString "SequenceMatcher") 391, PySem.Value.str (PySem.Str.ofString "SequenceMatcher") 392, PySem.Value.str (PySem.Str.ofString "/claim/cut.py") 393, PySem.Value.int 70 0, PySem.Value.int 0 0, PySem.Value.int 0 0, PySem.Value.int 0 0, PySem.Value.int 0 0, PySem.Value.ref 149, PySem.Value.bool Bool.false, PySem.Value.int 181 0, PySem.Value.ref 150, PySem.Value.none, PySem.Value.none, PySem.Value.none, PySem.Value.none, PySem.Value.int 394 0, PySem.Value.int 70 0, PySem.Value.str (PySem.Str.ofString "/claim/cut.py") 395] }
noncomputable def o152_0 (p : Program) (P : Params) : Obj := { cls := PySem.Value.type "frame", slots := #[Option.some (PySem.Value.ref 151), Option.some (PySem.Value.ref 3), Option.some (PySem.Value.ref 148), Option.none, Option.some (PySem.Value.str (PySem.Str.ofString "cpy313.difflib") 194), Option.none, Option.some (PySem.Value.ref 0)] }
noncomputable def o153_0 (p : Program) (P : Params) : Obj := { cls := PySem.Value.type "tuple", data := PySem.Data.seq #[PySem.Value.none, PySem.Value.str (PySem.Str.ofString "") 404, PySem.Value.str (PySem.Str.ofString "") 405, PySem.Value.bool Bool.true] }
noncomputable def o154_0 (p : Program) (P : Params) : Obj := { cls := PySem.Value.type "tuple", data := PySem.Data.seq #[] }
noncomputable def o155_0 (p : Program) (P : Params) : Obj := { cls := PySem.Value.none, data := PySem.Data.fields #[] }
noncomputable def o156_0 (p : Program) (P : Params) : Obj := { cls := PySem.Value.type "tuple", data := PySem.Data.seq #[PySem.Value.str (PySem.Str.ofString "self") 409, PySem.Value.str (PySem.Str.ofString "isjunk") 410, PySem.Value.str (PySem.Str.ofString "a") 411, PySem.Value.str (PySem.Str.ofString "b") 412, PySem.Value.str (PySem.Str.ofString "autojunk") 413] }
noncomputable def o157_0 (p : Program) (P : Params) : Obj := { cls := PySem.Value.type "tuple", data := PySem.Data.seq #[] }
noncomputable def o158_0 (p : Program) (P : Params) : Obj := { cls := PySem.Value.none, data := PySem.Data.func { name := PySem.Str.ofString "__init__", qualname := PySem.Str.ofString "SequenceMatcher.__init__", params := fa_5_1 p, body := PySem.FuncBody.stmts (fb_5_1 p), scope := fs_5_1 p, globals := 0, closure := [], defaults := PySem.Value.none, kwdefaults := PySem.Value.none } }
noncomputable def o159_0 (p : Program) (P : Params) : Obj := { cls := PySem.Value.type "code", data := PySem.Data.fields #[PySem.Value.str (PySem.Str.ofString "__init__") 406, PySem.Value.str (PySem.Str.ofString "SequenceMatcher.__init__") 407, PySem.Value.str (PySem.Str.ofString "/claim/cut.py") 408, PySem.Value.int 145 0, PySem.Value.int 5 0, PySem.Value.int 0 0, PySem.Value.int 0 0, PySem.Value.int 3 0, PySem.Value.ref 154, PySem.Value.bool Bool.true, PySem.Value.int 181 0, PySem.Value.ref 155, PySem.Value.none, PySem.Value.ref 156, PySem.Value.ref 157, PySem.Value.ref 158, PySem.Value.int 414 0, PySem.Value.int 145 0, PySem.Value.str (PySem.Str.ofString "/claim/cut.py") 415] }
noncomputable def o160_0 (p : Program) (P : Params) : Obj := { cls := PySem.Value.type "function", data := PySem.Data.func { name := PySem.Str.ofString "__init__", qualname := PySem.Str.ofString "SequenceMatcher.__init__", params := fa_5_1 p, body := PySem.FuncBody.stmts (fb_5_1 p), scope := fs_5_1 p, globals := 3, closure := [], defaults := PySem.Value.ref 153, kwdefaults := PySem.Value.none, doc := PySem.Value.str (fd_5_1 p) 416, pyModule := PySem.Value.str (PySem.Str.ofString "cpy313.difflib") 194, code := PySem.Value.ref 159 } }
noncomputable def o161_0 (p : Program) (P : Params) : Obj := { cls := PySem.Value.type "tuple", data := PySem.Data.seq #[] }
noncomputable def o162_0 (p : Program) (P : Params) : Obj := { cls := PySem.Value.none, data := PySem.Data.fields #[] }
noncomputable def o163_0 (p : Program) (P : Params) : Obj := { cls := PySem.Value.type "tuple", data := PySem.Data.seq #[PySem.Value.str (PySem.Str.ofString "self") 421, PySem.Value.str (PySem.Str.ofString "a") 422, PySem.Value.str (PySem.Str.ofString "b") 423] }
noncomputable def o164_0 (p : Program) (P : Params) : Obj := { cls := PySem.Value.type "tuple", data := PySem.Data.seq #[] }
noncomputable def o165_0 (p : Program) (P : Params) : Obj := { cls := PySem.Value.none, data := PySem.Data.func { name := PySem.Str.ofString "set_seqs", qualname := PySem.Str.ofString "SequenceMatcher.set_seqs", params := fa_5_2 p, body := PySem.FuncBody.stmts (fb_5_2 p), scope := fs_5_2 p, globals := 0, closure := [], defaults := PySem.Value.none, kwdefaults := PySem.Value.none } }
noncomputable def o166_0 (p : Program) (P : Params) : Obj := { cls := PySem.Value.type "code", data := PySem.Data.fields #[PySem.Value.str (PySem.Str.ofString "set_seqs") 418, PySem.Value.str (PySem.Str.ofString "SequenceMatcher.set_seqs") 419, PySem.Value.str (PySem.Str.ofString "/claim/cut.py") 420, PySem.Value.int 173 0, PySem.Value.int 3 0, PySem.Value.int 0 0, PySem.Value.int 0 0, PySem.Value.int 3 0, PySem.Value.ref 161, PySem.Value.bool Bool.true, PySem.Value.int 181 0, PySem.Value.ref 162, PySem.Value.none, PySem.Value.ref 163, PySem.Value.ref 164, PySem.Value.ref 165, PySem.Value.int 424 0, PySem.Value.int 173 0, PySem.Value.str (PySem.Str.ofString "/claim/cut.py") 425] }
noncomputable def o167_0 (p : Program) (P : Params) : Obj := { cls := PySem.Value.type "function", data := PySem.Data.func { name := PySem.Str.ofString "set_seqs", qualname := PySem.Str.ofString "SequenceMatcher.set_seqs", params := fa_5_2 p, body := PySem.FuncBody.stmts (fb_5_2 p), scope := fs_5_2 p, globals := 3, closure := [], defaults := PySem.Value.none, kwdefaults := PySem.Value.none, doc := PySem.Value.str (fd_5_2 p) 426, pyModule := PySem.Value.str (PySem.Str.ofString "cpy313.difflib") 194, code := PySem.Value.ref 166 } }
noncomputable def o168_0 (p : Program) (P : Params) : Obj := { cls := PySem.Value.type "tuple", data := PySem.Data.seq #[] }
noncomputable def o169_0 (p : Program) (P : Params) : Obj := { cls := PySem.Value.none, data := PySem.Data.fields #[] }
noncomputable def o170_0 (p : Program) (P : Params) : Obj := { cls := PySem.Value.type "tuple", data := PySem.Data.seq #[PySem.Value.str (PySem.Str.ofString "self") 431, PySem.Value.str (PySem.Str.ofString "a") 432] }
noncomputable def o171_0 (p : Program) (P : Params) : Obj := { cls := PySem.Value.type "tuple", data := PySem.Data.seq #[] }
noncomputable def o172_0 (p : Program) (P : Params) : Obj := { cls := PySem.Value.none, data := PySem.Data.func { name := PySem.Str.ofString "set_seq1", qualname := PySem.Str.ofString "SequenceMatcher.set_seq1", params := fa_5_3 p, body := PySem.FuncBody.stmts (fb_5_3 p), scope := fs_5_3 p, globals := 0, closure := [], defaults := PySem.Value.none, kwdefaults := PySem.Value.none } }
noncomputable def o173_0 (p : Program) (P : Params) : Obj := { cls := PySem.Value.type "code", data := PySem.Data.fields #[PySem.Value.str (PySem.Str.ofString "set_seq1") 428, PySem.Value.str (PySem.Str.ofString "SequenceMatcher.set_seq1") 429, PySem.Value.str (PySem.Str.ofString "/claim/cut.py") 430, PySem.Value.int 184 0, PySem.Value.int 2 0, PySem.Value.int 0 0, PySem.Value.int 0 0, PySem.Value.int 3 0, PySem.Value.ref 168, PySem.Value.bool Bool.true, PySem.Value.int 181 0, PySem.Value.ref 169, PySem.Value.none, PySem.Value.ref 170, PySem.Value.ref 171, PySem.Value.ref 172, PySem.Value.int 433 0, PySem.Value.int 184 0, PySem.Value.str (PySem.Str.ofString "/claim/cut.py") 434] }
noncomputable def o174_0 (p : Program) (P : Params) : Obj := { cls := PySem.Value.type "function", data := PySem.Data.func { name := PySem.Str.ofString "set_seq1", qualname := PySem.Str.ofString "SequenceMatcher.set_seq1", params := fa_5_3 p, body := PySem.FuncBody.stmts (fb_5_3 p), scope := fs_5_3 p, globals := 3, closure := [], defaults := PySem.Value.none, kwdefaults := PySem.Value.none, doc := PySem.Value.str (fd_5_3 p) 435, pyModule := PySem.Value.str (PySem.Str.ofString "cpy313.difflib") 194, code := PySem.Value.ref 173 } }
noncomputable def o175_0 (p : Program) (P : Params) : Obj := { cls := PySem.Value.type "tuple", data := PySem.Data.seq #[] }
noncomputable def o176_0 (p : Program) (P : Params) : Obj := { cls := PySem.Value.none, data := PySem.Data.fields #[] }
noncomputable def o177_0 (p : Program) (P : Params) : Obj := { cls := PySem.Value.type "tuple", data := PySem.Data.seq #[PySem.Value.str (PySem.Str.ofString "self") 440, PySem.Value.str (PySem.Str.ofString "b") 441] }
noncomputable def o178_0 (p : Program) (P : Params) : Obj := { cls := PySem.Value.type "tuple", data := PySem.Data.seq #[] }
noncomputable def o179_0 (p : Program) (P : Params) : Obj := { cls := PySem.Value.none, data := PySem.Data.func { name := PySem.Str.ofString "set_seq2", qualname := PySem.Str.ofString "SequenceMatcher.set_seq2", params := fa_5_4 p, body := PySem.FuncBody.stmts (fb_5_4 p), scope := fs_5_4 p, globals := 0, closure := [], defaults := PySem.Value.none, kwdefaults := PySem.Value.none } }
noncomputable def o180_0 (p : Program) (P : Params) : Obj := { cls := PySem.Value.type "code", data := PySem.Data.fields #[PySem.Value.str (PySem.Str.ofString "set_seq2") 437, PySem.Value.str (PySem.Str.ofString "SequenceMatcher.set_seq2") 438, PySem.Value.str (PySem.Str.ofString "/claim/cut.py") 439, PySem.Value.int 209 0, PySem.Value.int 2 0, PySem.Value.int 0 0, PySem.Value.int 0 0, PySem.Value.int 3 0, PySem.Value.ref 175, PySem.Value.bool Bool.true, PySem.Value.int 181 0, PySem.Value.ref 176, PySem.Value.none, PySem.Value.ref 177, PySem.Value.ref 178, PySem.Value.ref 179, PySem.Value.int 442 0, PySem.Value.int 209 0, PySem.Value.str (PySem.Str.ofString "/claim/cut.py") 443] }
noncomputable def o181_0 (p : Program) (P : Params) : Obj := { cls := PySem.Value.type "function", data := PySem.Data.func { name := PySem.Str.ofString "set_seq2", qualname := PySem.Str.ofString "SequenceMatcher.set_seq2", params := fa_5_4 p, body := PySem.FuncBody.stmts (fb_5_4 p), scope := fs_5_4 p, globals := 3, closure := [], defaults := PySem.Value.none, kwdefaults := PySem.Value.none, doc := PySem.Value.str (fd_5_4 p) 444, pyModule := PySem.Value.str (PySem.Str.ofString "cpy313.difflib") 194, code := PySem.Value.ref 180 } }
noncomputable def o182_0 (p : Program) (P : Params) : Obj := { cls := PySem.Value.type "tuple", data := PySem.Data.seq #[] }
noncomputable def o183_0 (p : Program) (P : Params) : Obj := { cls := PySem.Value.none, data := PySem.Data.fields #[] }
noncomputable def o184_0 (p : Program) (P : Params) : Obj := { cls := PySem.Value.type "tuple", data := PySem.Data.seq #[PySem.Value.str (PySem.Str.ofString "self") 449, PySem.Value.str (PySem.Str.ofString "b") 450, PySem.Value.str (PySem.Str.ofString "b2j") 451, PySem.Value.str (PySem.Str.ofString "i") 452, PySem.Value.str (PySem.Str.ofString "elt") 453, PySem.Value.str (PySem.Str.ofString "indices") 454, PySem.Value.str (PySem.Str.ofString "junk") 455, PySem.Value.str (PySem.Str.ofString "isjunk") 456, PySem.Value.str (PySem.Str.ofString "popular") 457, PySem.Value.str (PySem.Str.ofString "n") 458, PySem.Value.str (PySem.Str.ofString "ntest") 459, PySem.Value.str (PySem.Str.ofString "idxs") 460] }
noncomputable def o185_0 (p : Program) (P : Params) : Obj := { cls := PySem.Value.type "tuple", data := PySem.Data.seq #[] }
noncomputable def o186_0 (p : Program) (P : Params) : Obj := { cls := PySem.Value.none, data := PySem.Data.func { name := PySem.Str.ofString "__chain_b", qualname := PySem.Str.ofString "SequenceMatcher.__chain_b", params := fa_5_5 p, body := PySem.FuncBody.stmts (fb_5_5 p), scope := fs_5_5 p, globals := 0, closure := [], defaults := PySem.Value.none, kwdefaults := PySem.Value.none } }
noncomputable def o187_0 (p : Program) (P : Params) : Obj := { cls := PySem.Value.type "code", data := PySem.Data.fields #[PySem.Value.str (PySem.Str.ofString "__chain_b") 446, PySem.Value.str (PySem.Str.ofString "SequenceMatcher.__chain_b") 447, PySem.Value.str (PySem.Str.ofString "/claim/cut.py") 448, PySem.Value.int 236 0, PySem.Value.int 1 0, PySem.Value.int 0 0, PySem.Value.int 0 0, PySem.Value.int 3 0, PySem.Value.ref 182, PySem.Value.bool Bool.true, PySem.Value.int 181 0, PySem.Value.ref 183, PySem.Value.none, PySem.Value.ref 184, PySem.Value.ref 185, PySem.Value.ref 186, PySem.Value.int 461 0, PySem.Value.int 236 0, PySem.Value.str (PySem.Str.ofString "/claim/cut.py") 462] }
noncomputable def o188_0 (p : Program) (P : Params) : Obj := { cls := PySem.Value.type "function", data := PySem.Data.func { name := PySem.Str.ofString "__chain_b", qualname := PySem.Str.ofString "SequenceMatcher.__chain_b", params := fa_5_5 p, body := PySem.FuncBody.stmts (fb_5_5 p), scope := fs_5_5 p, globals := 3, closure := [], defaults := PySem.Value.none, kwdefaults := PySem.Value.none, pyModule := PySem.Value.str (PySem.Str.ofString "cpy313.difflib") 194, code := PySem.Value.ref 187 } }
noncomputable def o189_0 (p : Program) (P : Params) : Obj := { cls := PySem.Value.type "tuple", data := PySem.Data.seq #[PySem.Value.int 0 464, PySem.Value.none, PySem.Value.int 0 465, PySem.Value.none] }
noncomputable def o190_0 (p : Program) (P : Params) : Obj := { cls := PySem.Value.type "tuple", data := PySem.Data.seq #[] }
noncomputable def o191_0 (p : Program) (P : Params) : Obj := { cls := PySem.Value.none, data := PySem.Data.fields #[] }
noncomputable def o192_0 (p : Program) (P : Params) : Obj := { cls := PySem.Value.type "tuple", data := PySem.Data.seq #[PySem.Value.str (PySem.Str.ofString "self") 469, PySem.Value.str (PySem.Str.ofString "alo") 470, PySem.Value.str (PySem.Str.ofString "ahi") 471, PySem.Value.str (PySem.Str.ofString "blo") 472, PySem.Value.str (PySem.Str.ofString "bhi") 473, PySem.Value.str (PySem.Str.ofString "a") 474, PySem.Value.str (PySem.Str.ofString "b") 475, PySem.Value.str (PySem.Str.ofString "b2j") 476, PySem.Value.str (PySem.Str.ofString "isbjunk") 477, PySem.Value.str (PySem.Str.ofString "besti") 478, PySem.Value.str (PySem.Str.ofString "bestj") 479, PySem.Value.str (PySem.Str.ofString "bestsize") 480, PySem.Value.str (PySem.Str.ofString "j2len") 481, PySem.Value.str (PySem.Str.ofString "nothing") 482, PySem.Value.str (PySem.Str.ofString "i") 483, PySem.Value.str (PySem.Str.ofString "j2lenget") 484, PySem.Value.str (PySem.Str.ofString "newj2len") 485, PySem.Value.str (PySem.Str.ofString "j") 486, PySem.Value.str (PySem.Str.ofString "k") 487] }
noncomputable def o193_0 (p : Program) (P : Params) : Obj := { cls := PySem.Value.type "tuple", data := PySem.Data.seq #[] }
noncomputable def o194_0 (p : Program) (P : Params) : Obj := { cls := PySem.Value.none, data := PySem.Data.func { name := PySem.Str.ofString "find_longest_match", qualname := PySem.Str.ofString "SequenceMatcher.find_longest_match", params := fa_5_6 p, body := PySem.FuncBody.stmts (fb_5_6 p), scope := fs_5_6 p, globals := 0, closure := [], defaults := PySem.Value.none, kwdefaults := PySem.Value.none } }
noncomputable def o195_0 (p : Program) (P : Params) : Obj := { cls := PySem.Value.type "code", data := PySem.Data.fields #[PySem.Value.str (PySem.Str.ofString "find_longest_match") 466, PySem.Value.str (PySem.Str.ofString "SequenceMatcher.find_longest_match") 467, PySem.Value.str (PySem.Str.ofString "/claim/cut.py") 468, PySem.Value.int 260 0, PySem.Value.int 5 0, PySem.Value.int 0 0, PySem.Value.int 0 0, PySem.Value.int 3 0, PySem.Value.ref 190, PySem.Value.bool Bool.true, PySem.Value.int 181 0, PySem.Value.ref 191, PySem.Value.none, PySem.Value.ref 192, PySem.Value.ref 193, PySem.Value.ref 194, PySem.Value.int 488 0, PySem.Value.int 260 0, PySem.Value.str (PySem.Str.ofString "/claim/cut.py") 489] }
noncomputable def o196_0 (p : Program) (P : Params) : Obj := { cls := PySem.Value.type "function", data := PySem.Data.func { name := PySem.Str.ofString "find_longest_match", qualname := PySem.Str.ofString "SequenceMatcher.find_longest_match", params := fa_5_6 p, body := PySem.FuncBody.stmts (fb_5_6 p), scope := fs_5_6 p, globals := 3, closure := [], defaults := PySem.Value.ref 189, kwdefaults := PySem.Value.none, doc := PySem.Value.str (fd_5_6 p) 490, pyModule := PySem.Value.str (PySem.Str.ofString "cpy313.difflib") 194, code := PySem.Value.ref 195 } }
noncomputable def o197_0 (p : Program) (P : Params) : Obj := { cls := PySem.Value.type "tuple", data := PySem.Data.seq #[] }
noncomputable def o198_0 (p : Program) (P : Params) : Obj := { cls := PySem.Value.none, data := PySem.Data.fields #[] }
noncomputable def o199_0 (p : Program) (P : Params) : Obj := { cls := PySem.Value.type "tuple", data := PySem.Data.seq #[PySem.Value.str (PySem.Str.ofString "self") 495, PySem.Value.str (PySem.Str.ofString "la") 496, PySem.Value.str (PySem.Str.ofString "lb") 497, PySem.Value.str (PySem.Str.ofString "queue") 498, PySem.Value.str (PySem.Str.ofString "matching_blocks") 499, PySem.Value.str (PySem.Str.ofString "alo") 500, PySem.Value.str (PySem.Str.ofString "ahi") 501, PySem.Value.str (PySem.Str.ofString "blo") 502, PySem.Value.str (PySem.Str.ofString "bhi") 503, PySem.Value.str (PySem.Str.ofString "i") 504, PySem.Value.str (PySem.Str.ofString "j") 505, PySem.Value.str (PySem.Str.ofString "k") 506, PySem.Value.str (PySem.Str.ofString "x") 507, PySem.Value.str (PySem.Str.ofString "i1") 508, PySem.Value.str (PySem.Str.ofString "j1") 509, PySem.Value.str (PySem.Str.ofString "k1") 510, PySem.Value.str (PySem.Str.ofString "non_adjacent") 511, PySem.Value.str (PySem.Str.ofString "i2") 512, PySem.Value.str (PySem.Str.ofString "j2") 513, PySem.Value.str (PySem.Str.ofString "k2") 514] }
noncomputable def o200_0 (p : Program) (P : Params) : Obj := { cls := PySem.Value.type "tuple", data := PySem.Data.seq #[] }
noncomputable def o201_0 (p : Program) (P : Params) : Obj := { cls := PySem.Value.none, data := PySem.Data.func { name := PySem.Str.ofString "get_matching_blocks", qualname := PySem.Str.ofString "SequenceMatcher.get_matching_blocks", params := fa_5_7 p, body := PySem.FuncBody.stmts (fb_5_7 p), scope := fs_5_7 p, globals := 0, closure := [], defaults := PySem.Value.none, kwdefaults := PySem.Value.none } }
noncomputable def o202_0 (p : Program) (P : Params) : Obj := { cls := PySem.Value.type "code", data := PySem.Data.fields #[PySem.Value.str (PySem.Str.ofString "get_matching_blocks") 492, PySem.Value.str (PySem.Str.ofString "SequenceMatcher.get_matching_blocks") 493, PySem.Value.str (PySem.Str.ofString "/claim/cut.py") 494, PySem.Value.int 335 0, PySem.Value.int 1 0, PySem.Value.int 0 0, PySem.Value.int 0 0, PySem.Value.int 3 0, PySem.Value.ref 197, PySem.Value.bool Bool.true, PySem.Value.int 181 0, PySem.Value.ref 198, PySem.Value.none, PySem.Value.ref 199, PySem.Value.ref 200, PySem.Value.ref 201, PySem.Value.int 515 0, PySem.Value.int 335 0, PySem.Value.str (PySem.Str.ofString "/claim/cut.py") 516] }
noncomputable def o203_0 (p : Program) (P : Params) : Obj := { cls := PySem.Value.type "function", data := PySem.Data.func { name := PySem.Str.ofString "get_matching_blocks", qualname := PySem.Str.ofString "SequenceMatcher.get_matching_blocks", params := fa_5_7 p, body := PySem.FuncBody.stmts (fb_5_7 p), scope := fs_5_7 p, globals := 3, closure := [], defaults := PySem.Value.none, kwdefaults := PySem.Value.none, doc := PySem.Value.str (fd_5_7 p) 517, pyModule := PySem.Value.str (PySem.Str.ofString "cpy313.difflib") 194, code := PySem.Value.ref 202 } }
noncomputable def o204_0 (p : Program) (P : Params) : Obj := { cls := PySem.Value.type "tuple", data := PySem.Data.seq #[] }
noncomputable def o205_0 (p : Program) (P : Params) : Obj := { cls := PySem.Value.none, data := PySem.Data.fields #[] }
noncomputable def o206_0 (p : Program) (P : Params) : Obj := { cls := PySem.Value.type "tuple", data := PySem.Data.seq #[PySem.Value.str (PySem.Str.ofString "self") 522, PySem.Value.str (PySem.Str.ofString "i") 523, PySem.Value.str (PySem.Str.ofString "j") 524, PySem.Value.str (PySem.Str.ofString "answer") 525, PySem.Value.str (PySem.Str.ofString "ai") 526, PySem.Value.str (PySem.Str.ofString "bj") 527, PySem.Value.str (PySem.Str.ofString "size") 528, PySem.Value.str (PySem.Str.ofString "tag") 529] }
noncomputable def o207_0 (p : Program) (P : Params) : Obj := { cls := PySem.Value.type "tuple", data := PySem.Data.seq #[] }
noncomputable def o208_0 (p : Program) (P : Params) : Obj := { cls := PySem.Value.none, data := PySem.Data.func { name := PySem.Str.ofString "get_opcodes", qualname := PySem.Str.ofString "SequenceMatcher.get_opcodes", params := fa_5_8 p, body := PySem.FuncBody.stmts (fb_5_8 p), scope := fs_5_8 p, globals := 0, closure := [], defaults := PySem.Value.none, kwdefaults := PySem.Value.none } }
noncomputable def o209_0 (p : Program) (P : Params) : Obj := { cls := PySem.Value.type "code", data := PySem.Data.fields #[PySem.Value.str (PySem.Str.ofString "get_opcodes") 519, PySem.Value.str (PySem.Str.ofString "SequenceMatcher.get_opcodes") 520, PySem.Value.str (PySem.Str.ofString "/claim/cut.py") 521, PySem.Value.int 383 0, PySem.Value.int 1 0, PySem.Value.int 0 0, PySem.Value.int 0 0, PySem.Value.int 3 0, PySem.Value.ref 204, PySem.Value.bool Bool.true, PySem.Value.int 181 0, PySem.Value.ref 205, PySem.Value.none, PySem.Value.ref 206, PySem.Value.ref 207, PySem.Value.ref 208, PySem.Value.int 530 0, PySem.Value.int 383 0, PySem.Value.str (PySem.Str.ofString "/claim/cut.py") 531] }
noncomputable def o210_0 (p : Program) (P : Params) : Obj := { cls := PySem.Value.type "function", data := PySem.Data.func { name := PySem.Str.ofString "get_opcodes", qualname := PySem.Str.ofString "SequenceMatcher.get_opcodes", params := fa_5_8 p, body := PySem.FuncBody.stmts (fb_5_8 p), scope := fs_5_8 p, globals := 3, closure := [], defaults := PySem.Value.none, kwdefaults := PySem.Value.none, doc := PySem.Value.str (fd_5_8 p) 532, pyModule := PySem.Value.str (PySem.Str.ofString "cpy313.difflib") 194, code := PySem.Value.ref 209 } }
noncomputable def o211_0 (p : Program) (P : Params) : Obj := { cls := PySem.Value.type "tuple", data := PySem.Data.seq #[PySem.Value.int 3 534] }
noncomputable def o212_0 (p : Program) (P : Params) : Obj := { cls := PySem.Value.type "tuple", data := PySem.Data.seq #[] }
noncomputable def o213_0 (p : Program) (P : Params) : Obj := { cls := PySem.Value.none, data := PySem.Data.fields #[] }
noncomputable def o214_0 (p : Program) (P : Params) : Obj := { cls := PySem.Value.type "tuple", data := PySem.Data.seq #[PySem.Value.str (PySem.Str.ofString "self") 538, PySem.Value.str (PySem.Str.ofString "n") 539] }
noncomputable def o215_0 (p : Program) (P : Params) : Obj := { cls := PySem.Value.type "tuple", data := PySem.Data.seq #[] }
noncomputable def o216_0 (p : Program) (P : Params) : Obj := { cls := PySem.Value.none, data := PySem.Data.func { name := PySem.Str.ofString "get_grouped_opcodes", qualname := PySem.Str.ofString "SequenceMatcher.get_grouped_opcodes", params := fa_5_9 p, body := PySem.FuncBody.stmts (fb_5_9 p), scope := fs_5_9 p, globals := 0, closure := [], defaults := PySem.Value.none, kwdefaults := PySem.Value.none } }
noncomputable def o217_0 (p : Program) (P : Params) : Obj := { cls := PySem.Value.type "code", data := PySem.Data.fields #[PySem.Value.str (PySem.Str.ofString "get_grouped_opcodes") 535, PySem.Value.str (PySem.Str.ofString "SequenceMatcher.get_grouped_opcodes") 536, PySem.Value.str (PySem.Str.ofString "/claim/cut.py") 537, PySem.Value.int 430 0, PySem.Value.int 2 0, PySem.Value.int 0 0, PySem.Value.int 0 0, PySem.Value.int 3 0, PySem.Value.ref 212, PySem.Value.bool Bool.true, PySem.Value.int 181 0, PySem.Value.ref 213, PySem.Value.none, PySem.Value.ref 214, PySem.Value.ref 215, PySem.Value.ref 216, PySem.Value.int 540 0, PySem.Value.int 430 0, PySem.Value.str (PySem.Str.ofString "/claim/cut.py") 541] }
noncomputable def o218_0 (p : Program) (P : Params) : Obj := { cls := PySem.Value.type "function", data := PySem.Data.func { name := PySem.Str.ofString "get_grouped_opcodes", qualname := PySem.Str.ofString "SequenceMatcher.get_grouped_opcodes", params := fa_5_9 p, body := PySem.FuncBody.stmts (fb_5_9 p), scope := fs_5_9 p, globals := 3, closure := [], defaults := PySem.Value.ref 211, kwdefaults := PySem.Value.none, pyModule := PySem.Value.str (PySem.Str.ofString "cpy313.difflib") 194, code := PySem.Value.ref 217 } }
noncomputable def o219_0 (p : Program) (P : Params) : Obj := { cls := PySem.Value.type "tuple", data := PySem.Data.seq #[] }
noncomputable def o220_0 (p : Program) (P : Params) : Obj := { cls := PySem.Value.none, data := PySem.Data.fields #[] }
noncomputable def o221_0 (p : Program) (P : Params) : Obj := { cls := PySem.Value.type "tuple", data := PySem.Data.seq #[PySem.Value.str (PySem.Str.ofString "self") 546, PySem.Value.str (PySem.Str.ofString "matches") 547] }
noncomputable def o222_0 (p : Program) (P : Params) : Obj := { cls := PySem.Value.type "tuple", data := PySem.Data.seq #[] }
noncomputable def o223_0 (p : Program) (P : Params) : Obj := { cls := PySem.Value.none, data := PySem.Data.func { name := PySem.Str.ofString "ratio", qualname := PySem.Str.ofString "SequenceMatcher.ratio", params := fa_5_10 p, body := PySem.FuncBody.stmts (fb_5_10 p), scope := fs_5_10 p, globals := 0, closure := [], defaults := PySem.Value.none, kwdefaults := PySem.Value.none } }
noncomputable def o224_0 (p : Program) (P : Params) : Obj := { cls := PySem.Value.type "code", data := PySem.Data.fields #[PySem.Value.str (PySem.Str.ofString "ratio") 543, PySem.Value.str (PySem.Str.ofString "SequenceMatcher.ratio") 544, PySem.Value.str (PySem.Str.ofString "/claim/cut.py") 545, PySem.Value.int 433 0, PySem.Value.int 1 0, PySem.Value.int 0 0, PySem.Value.int 0 0, PySem.Value.int 3 0, PySem.Value.ref 219, PySem.Value.bool Bool.true, PySem.Value.int 181 0, PySem.Value.ref 220, PySem.Value.none, PySem.Value.ref 221, PySem.Value.ref 222, PySem.Value.ref 223, PySem.Value.int 548 0, PySem.Value.int 433 0, PySem.Value.str (PySem.Str.ofString "/claim/cut.py") 549] }
noncomputable def o225_0 (p : Program) (P : Params) : Obj := { cls := PySem.Value.type "function", data := PySem.Data.func { name := PySem.Str.ofString "ratio", qualname := PySem.Str.ofString "SequenceMatcher.ratio", params := fa_5_10 p, body := PySem.FuncBody.stmts (fb_5_10 p), scope := fs_5_10 p, globals := 3, closure := [], defaults := PySem.Value.none, kwdefaults := PySem.Value.none, doc := PySem.Value.str (fd_5_10 p) 550, pyModule := PySem.Value.str (PySem.Str.ofString "cpy313.difflib") 194, code := PySem.Value.ref 224 } }
noncomputable def o226_0 (p : Program) (P : Params) : Obj := { cls := PySem.Value.type "tuple", data := PySem.Data.seq #[] }
noncomputable def o227_0 (p : Program) (P : Params) : Obj := { cls := PySem.Value.none, data := PySem.Data.fields #[] }
noncomputable def o228_0 (p : Program) (P : Params) : Obj := { cls := PySem.Value.type "tuple", data := PySem.Data.seq #[PySem.Value.str (PySem.Str.ofString "self") 555, PySem.Value.str (PySem.Str.ofString "fullbcount") 556, PySem.Value.str (PySem.Str.ofString "elt") 557, PySem.Value.str (PySem.Str.ofString "avail") 558, PySem.Value.str (PySem.Str.ofString "availhas") 559, PySem.Value.str (PySem.Str.ofString "matches") 560, PySem.Value.str (PySem.Str.ofString "numb") 561] }
noncomputable def o229_0 (p : Program) (P : Params) : Obj := { cls := PySem.Value.type "tuple", data := PySem.Data.seq #[] }
noncomputable def o230_0 (p : Program) (P : Params) : Obj := { cls := PySem.Value.none, data := PySem.Data.func { name := PySem.Str.ofString "quick_ratio", qualname := PySem.Str.ofString "SequenceMatcher.quick_ratio", params := fa_5_11 p, body := PySem.FuncBody.stmts (fb_5_11 p), scope := fs_5_11 p, globals := 0, closure := [], defaults := PySem.Value.none, kwdefaults := PySem.Value.none } }
noncomputable def o231_0 (p : Program) (P : Params) : Obj := { cls := PySem.Value.type "code", data := PySem.Data.fields #[PySem.Value.str (PySem.Str.ofString "quick_ratio") 552, PySem.Value.str (PySem.Str.ofString "SequenceMatcher.quick_ratio") 553, PySem.Value.str (PySem.Str.ofString "/claim/cut.py") 554, PySem.Value.int 457 0, PySem.Value.int 1 0, PySem.Value.int 0 0, PySem.Value.int 0 0, PySem.Value.int 3 0, PySem.Value.ref 226, PySem.Value.bool Bool.true, PySem.Value.int 181 0, PySem.Value.ref 227, PySem.Value.none, PySem.Value.ref 228, PySem.Value.ref 229, PySem.Value.ref 230, PySem.Value.int 562 0, PySem.Value.int 457 0, PySem.Value.str (PySem.Str.ofString "/claim/cut.py") 563] }
noncomputable def o232_0 (p : Program) (P : Params) : Obj := { cls := PySem.Value.type "function", data := PySem.Data.func { name := PySem.Str.ofString "quick_ratio", qualname := PySem.Str.ofString "SequenceMatcher.quick_ratio", params := fa_5_11 p, body := PySem.FuncBody.stmts (fb_5_11 p), scope := fs_5_11 p, globals := 3, closure := [], defaults := PySem.Value.none, kwdefaults := PySem.Value.none, doc := PySem.Value.str (fd_5_11 p) 564, pyModule := PySem.Value.str (PySem.Str.ofString "cpy313.difflib") 194, code := PySem.Value.ref 231 } }
noncomputable def o233_0 (p : Program) (P : Params) : Obj := { cls := PySem.Value.type "tuple", data := PySem.Data.seq #[] }
noncomputable def o234_0 (p : Program) (P : Params) : Obj := { cls := PySem.Value.none, data := PySem.Data.fields #[] }
noncomputable def o235_0 (p : Program) (P : Params) : Obj := { cls := PySem.Value.type "tuple", data := PySem.Data.seq #[PySem.Value.str (PySem.Str.ofString "self") 569, PySem.Value.str (PySem.Str.ofString "la") 570, PySem.Value.str (PySem.Str.ofString "lb") 571] }
noncomputable def o236_0 (p : Program) (P : Params) : Obj := { cls := PySem.Value.type "tuple", data := PySem.Data.seq #[] }
noncomputable def o237_0 (p : Program) (P : Params) : Obj := { cls := PySem.Value.none, data := PySem.Data.func { name := PySem.Str.ofString "real_quick_ratio", qualname := PySem.Str.ofString "SequenceMatcher.real_quick_ratio", params := fa_5_12 p, body := PySem.FuncBody.stmts (fb_5_12 p), scope := fs_5_12 p, globals := 0, closure := [], defaults := PySem.Value.none, kwdefaults := PySem.Value.none } }
noncomputable def o238_0 (p : Program) (P : Params) : Obj := { cls := PySem.Value.type "code", data := PySem.Data.fields #[PySem.Value.str (PySem.Str.ofString "real_quick_ratio") 566, PySem.Value.str (PySem.Str.ofString "SequenceMatcher.real_quick_ratio") 567, PySem.Value.str (PySem.Str.ofString "/claim/cut.py") 568, PySem.Value.int 480 0, PySem.Value.int 1 0, PySem.Value.int 0 0, PySem.Value.int 0 0, PySem.Value.int 3 0, PySem.Value.ref 233, PySem.Value.bool Bool.true, PySem.Value.int 181 0, PySem.Value.ref 234, PySem.Value.none, PySem.Value.ref 235, PySem.Value.ref 236, PySem.Value.ref 237, PySem.Value.int 572 0, PySem.Value.int 480 0, PySem.Value.str (PySem.Str.ofString "/claim/cut.py") 573] }
noncomputable def o239_0 (p : Program) (P : Params) : Obj := { cls := PySem.Value.type "function", data := PySem.Data.func { name := PySem.Str.ofString "real_quick_ratio", qualname := PySem.Str.ofString "SequenceMatcher.real_quick_ratio", params := fa_5_12 p, body := PySem.FuncBody.stmts (fb_5_12 p), scope := fs_5_12 p, globals := 3, closure := [], defaults := PySem.Value.none, kwdefaults := PySem.Value.none, doc := PySem.Value.str (fd_5_12 p) 574, pyModule := PySem.Value.str (PySem.Str.ofString "cpy313.difflib") 194, code := PySem.Value.ref 238 } }
noncomputable def o240_0 (p : Program) (P : Params) : Obj := { cls := PySem.Value.type "tuple", data := PySem.Data.seq #[PySem.Value.str (PySem.Str.ofString "a") 576, PySem.Value.str (PySem.Str.ofString "autojunk") 577, PySem.Value.str (PySem.Str.ofString "b") 578, PySem.Value.str (PySem.Str.ofString "b2j") 579, PySem.Value.str (PySem.Str.ofString "bjunk") 580, PySem.Value.str (PySem.Str.ofString "bpopular") 581, PySem.Value.str (PySem.Str.ofString "fullbcount") 582, PySem.Value.str (PySem.Str.ofString "isjunk") 583, PySem.Value.str (PySem.Str.ofString "matching_blocks") 584, PySem.Value.str (PySem.Str.ofString "opcodes") 585] }
noncomputable def o241_0 (p : Program) (P : Params) : Obj := { cls := PySem.Value.type "dict", data := PySem.Data.dict #[{ hash := PySem.PyData.keyHash P (PySem.Str.ofString "__module__"), key := PySem.Value.str (PySem.Str.ofString "__module__") 396, val := PySem.Value.str (PySem.Str.ofString "cpy313.difflib") 194 }, { hash := PySem.PyData.keyHash P (PySem.Str.ofString "__firstlineno__"), key := PySem.Value.str (PySem.Str.ofString "__firstlineno__") 400, val := PySem.Value.int 70 399 }, { hash := PySem.PyData.keyHash P (PySem.Str.ofString "__doc__"), key := PySem.Value.str (PySem.Str.ofString "__doc__") 402, val := PySem.Value.str (fd_5 p) 401 }, { hash := PySem.PyData.keyHash P (PySem.Str.ofString "__init__"), key := PySem.Value.str (PySem.Str.ofString "__init__") 417, val := PySem.Value.ref 160 }, { hash := PySem.PyData.keyHash P (PySem.Str.ofString "set_seqs"), key := PySem.Value.str (PySem.Str.ofString "set_seqs") 427, val := PySem.Value.ref 167 }, { hash := PySem.PyData.keyHash P (PySem.Str.ofString "set_seq1"), key := PySem.Value.str (PySem.Str.ofString "set_seq1") 436, val := PySem.Value.ref 174 }, { hash := PySem.PyData.keyHash P (PySem.Str.ofString "set_seq2"), key := PySem.Value.str (PySem.Str.ofString "set_seq2") 445, val := PySem.Value.ref 181 }, { hash := PySem.PyData.keyHash P (PySem.Str.ofString "_SequenceMatcher__chain_b"), key := PySem.Value.str (PySem.Str.ofString "_SequenceMatcher__chain_b") 463, val := PySem.Value.ref 188 }, { hash := PySem.PyData.keyHash P (PySem.Str.ofString "find_longest_match"), key := PySem.Value.str (PySem.Str.ofString "find_longest_match") 491, val := PySem.Value.ref 196 }, { hash := PySem.PyData.keyHash P (PySem.Str.ofString "get_matching_blocks"), key := PySem.Value.str (PySem.Str.ofString "get_matching_blocks") 518, val := PySem.Value.ref 203 }, { hash := PySem.PyData.keyHash P (PySem.Str.ofString "get_opcodes"), key := PySem.Value.str (PySem.Str.ofString "get_opcodes") 533, val := PySem.Value.ref 210 }, { hash := PySem.PyData.keyHash P (PySem.Str.ofString "get_grouped_opcodes"), key := PySem.Value.str (PySem.Str.ofString "get_grouped_opcodes") 542, val := PySem.Value.ref 218 }, { hash := PySem.PyData.keyHash P (PySem.Str.ofString "ratio"), key := PySem.Value.str (PySem.Str.ofString "ratio") 551, val := PySem.Value.ref 225 }, { hash := PySem.PyData.keyHash P (PySem.Str.ofString "quick_ratio"), key := PySem.Value.str (PySem.Str.ofString "quick_ratio") 565, val := PySem.Value.ref 232 }, { hash := PySem.PyData.keyHash P (PySem.Str.ofString "real_quick_ratio"), key := PySem.Value.str (PySem.Str.ofString "real_quick_ratio") 575, val := PySem.Value.ref 239 }, { hash := PySem.PyData.keyHash P (PySem.Str.ofString "__static_attributes__"), key := PySem.Value.str (PySem.Str.ofString "__static_attributes__") 586, val := PySem.Value.ref 240 }, { hash := PySem.PyData.keyHash P (PySem.Str.ofString "__dict__"), key := PySem.Value.str (PySem.Str.ofString "__dict__") 588, val := PySem.Value.ref 243 }, { hash := PySem.PyData.keyHash P (PySem.Str.ofString "__weakref__"), key := PySem.Value.str (PySem.Str.ofString "__weakref__") 590, val := PySem.Value.ref 244 }] 3 }
noncomputable def o242_0 (p : Program) (P : Params) : Obj := { cls := PySem.Value.type "type", data := PySem.Data.cls { name := PySem.Str.ofString "SequenceMatcher", bases := [PySem.Value.type "object"], mro := [PySem.Value.ref 242, PySem.Value.type "object"], ns := 241, qualname := PySem.Str.ofString "SequenceMatcher" }, slots := #[Option.none, Option.none, Option.some (PySem.Value.str (PySem.Str.ofString "SequenceMatcher") 389), Option.some (PySem.Value.str (PySem.Str.ofString "SequenceMatcher") 397), Option.some (PySem.Value.builtin "object.__new__"), Option.some (PySem.Value.bool Bool.true)] }
noncomputable def o243_0 (p : Program) (P : Params) : Obj := { cls := PySem.Value.type "getset_descriptor", data := PySem.Data.fields #[PySem.Value.str (PySem.Str.ofString "__dict__") 587, PySem.Value.ref 242, PySem.Value.builtin "function.__dict__", PySem.Value.builtin "function.__dict__#set"] }
noncomputable def o244_0 (p : Program) (P : Params) : Obj := { cls := PySem.Value.type "getset_descriptor", data := PySem.Data.fields #[PySem.Value.str (PySem.Str.ofString "__weakref__") 589, PySem.Value.ref 242, PySem.Value.builtin "ExceptionGroup.__weakref__", PySem.Value.none] }
noncomputable def o245_0 (p : Program) (P : Params) : Obj := { cls := PySem.Value.type "super", data := PySem.Data.fields #[PySem.Value.ref 242, PySem.Value.ref 242, PySem.Value.ref 242] }
noncomputable def o246_0 (p : Program) (P : Params) : Obj := { cls := PySem.Value.type "builtin_function_or_method", data := PySem.Data.fields #[PySem.Value.builtin "object.__init_subclass__", PySem.Value.ref 242] }
noncomputable def t4 (p : Program) (P : Params) : BT := (.node (PySem.W.boot_o_0 P) (.node (PySem.W.boot_o_1 P) (.node (o3_3 p P) (.node (PySem.W.boot_o_7 P) (.node (o15_0 p P) (.node (o31_0 p P) (.node (o63_0 p P) (.node (o127_0 p P) .nil .nil) (.node (o191_0 p P) .nil .nil)) (.node (o95_0 p P) (.node (o159_0 p P) .nil .nil) (.node (o223_0 p P) .nil .nil))) (.node (o47_0 p P) (.node (o79_0 p P) (.node (o143_0 p P) .nil .nil) (.node (o207_0 p P) .nil .nil)) (.node (o111_0 p P) (.node (o175_0 p P) .nil .nil) (.node (o239_0 p P) .nil .nil)))) (.node (o23_0 p P) (.node (o39_0 p P) (.node (o71_0 p P) (.node (o135_0 p P) .nil .nil) (.node (o199_0 p P) .nil .nil)) (.node (o103_0 p P) (.node (o167_0 p P) .nil .nil) (.node (o231_0 p P) .nil .nil))) (.node (o55_0 p P) (.node (o87_0 p P) (.node (o151_0 p P) .nil .nil) (.node (o215_0 p P) .nil .nil)) (.node (o119_0 p P) (.node (o183_0 p P) .nil .nil) .nil)))) (.node (o11_0 p P) (.node (o19_0 p P) (.node (o35_0 p P) (.node (o67_0 p P) (.node (o131_0 p P) .nil .nil) (.node (o195_0 p P) .nil .nil)) (.node (o99_0 p P) (.node (o163_0 p P) .nil .nil) (.node (o227_0 p P) .nil .nil))) (.node (o51_0 p P) (.node (o83_0 p P) (.node (o147_0 p P) .nil .nil) (.node (o211_0 p P) .nil .nil)) (.node (o115_0 p P) (.node (o179_0 p P) .nil .nil) (.node (o243_0 p P) .nil .nil)))) (.node (o27_0 p P) (.node (o43_0 p P) (.node (o75_0 p P) (.node (o139_0 p P) .nil .nil) (.node (o203_0 p P) .nil .nil)) (.node (o107_0 p P) (.node (o171_0 p P) .nil .nil) (.node (o235_0 p P) .nil .nil))) (.node (o59_0 p P) (.node (o91_0 p P) (.node (o155_0 p P) .nil .nil) (.node (o219_0 p P) .nil .nil)) (.node (o123_0 p P) (.node (o187_0 p P) .nil .nil) .nil))))) (.node (PySem.W.boot_o_5 P) (.node (PySem.W.boot_o_9 P) (.node (o17_0 p P) (.node (o33_0 p P) (.node (o65_0 p P) (.node (o129_0 p P) .nil .nil) (.node (o193_0 p P) .nil .nil)) (.node (o97_0 p P) (.node (o161_0 p P) .nil .nil) (.node (o225_0 p P) .nil .nil))) (.node (o49_0 p P) (.node (o81_0 p P) (.node (o145_0 p P) .nil .nil) (.node (o209_0 p P) .nil .nil)) (.node (o113_0 p P) (.node (o177_0 p P) .nil .nil) (.node (o241_0 p P) .nil .nil)))) (.node (o25_0 p P) (.node (o41_0 p P) (.node (o73_0 p P) (.node (o137_0 p P) .nil .nil) (.node (o201_0 p P) .nil .nil)) (.node (o105_0 p P) (.node (o169_0 p P) .nil .nil) (.node (o233_0 p P) .nil .nil))) (.node (o57_0 p P) (.node (o89_0 p P) (.node (o153_0 p P) .nil .nil) (.node (o217_0 p P) .nil .nil)) (.node (o121_0 p P) (.node (o185_0 p P) .nil .nil) .nil)))) (.node (o13_0 p P) (.node (o21_0 p P) (.node (o37_0 p P) (.node (o69_0 p P) (.node (o133_0 p P) .nil .nil) (.node (o197_0 p P) .nil .nil)) (.node (o101_0 p P) (.node (o165_0 p P) .nil .nil) (.node (o229_0 p P) .nil .nil))) (.node (o53_0 p P) (.node (o85_0 p P) (.node (o149_0 p P) .nil .nil) (.node (o213_0 p P) .nil .nil)) (.node (o117_0 p P) (.node (o181_0 p P) .nil .nil) (.node (o245_0 p P) .nil .nil)))) (.node (o29_0 p P) (.node (o45_0 p P) (.node (o77_0 p P) (.node (o141_0 p P) .nil .nil) (.node (o205_0 p P) .nil .nil)) (.node (o109_0 p P) (.node (o173_0 p P) .nil .nil) (.node (o237_0 p P) .nil .nil))) (.node (o61_0 p P) (.node (o93_0 p P) (.node (o157_0 p P) .nil .nil) (.node (o221_0 p P) .nil .nil)) (.node (o125_0 p P) (.node (o189_0 p P) .nil .nil) .nil)))))) (.node (PySem.W.boot_o_2 P) (.node (PySem.W.boot_o_4 P) (.node (PySem.W.boot_o_8 P) (.node (o16_0 p P) (.node (o32_0 p P) (.node (o64_0 p P) (.node (o128_0 p P) .nil .nil) (.node (o192_0 p P) .nil .nil)) (.node (o96_0 p P) (.node (o160_0 p P) .nil .nil) (.node (o224_0 p P) .nil .nil))) (.node (o48_0 p P) (.node (o80_0 p P) (.node (o144_0 p P) .nil .nil) (.node (o208_0 p P) .nil .nil)) (.node (o112_0 p P) (.node (o176_0 p P) .nil .nil) (.node (o240_0 p P) .nil .nil)))) (.node (o24_0 p P) (.node (o40_0 p P) (.node (o72_0 p P) (.node (o136_0 p P) .nil .nil) (.node (o200_0 p P) .nil .nil)) (.node (o104_0 p P) (.node (o168_0 p P) .nil .nil) (.node (o232_0 p P) .nil .nil))) (.node (o56_0 p P) (.node (o88_0 p P) (.node (o152_0 p P) .nil .nil) (.node (o216_0 p P) .nil .nil)) (.node (o120_0 p P) (.node (o184_0 p P) .nil .nil) .nil)))) (.node (o12_4 p P) (.node (o20_0 p P) (.node (o36_0 p P) (.node (o68_0 p P) (.node (o132_0 p P) .nil .nil) (.node (o196_0 p P) .nil .nil)) (.node (o100_0 p P) (.node (o164_0 p P) .nil .nil) (.node (o228_0 p P) .nil .nil))) (.node (o52_0 p P) (.node (o84_0 p P) (.node (o148_0 p P) .nil .nil) (.node (o212_0 p P) .nil .nil)) (.node (o116_0 p P) (.node (o180_0 p P) .nil .nil) (.node (o244_0 p P) .nil .nil)))) (.node (o28_0 p P) (.node (o44_0 p P) (.node (o76_0 p P) (.node (o140_0 p P) .nil .nil) (.node (o204_0 p P) .nil .nil)) (.node (o108_0 p P) (.node (o172_0 p P) .nil .nil) (.node (o236_0 p P) .nil .nil))) (.node (o60_0 p P) (.node (o92_0 p P) (.node (o156_0 p P) .nil .nil) (.node (o220_0 p P) .nil .nil)) (.node (o124_0 p P) (.node (o188_0 p P) .nil .nil) .nil))))) (.node (PySem.W.boot_o_6 P) (.node (PySem.W.boot_o_10 P) (.node (o18_0 p P) (.node (o34_0 p P) (.node (o66_0 p P) (.node (o130_0 p P) .nil .nil) (.node (o194_0 p P) .nil .nil)) (.node (o98_0 p P) (.node (o162_0 p P) .nil .nil) (.node (o226_0 p P) .nil .nil))) (.node (o50_0 p P) (.node (o82_0 p P) (.node (o146_0 p P) .nil .nil) (.node (o210_0 p P) .nil .nil)) (.node (o114_0 p P) (.node (o178_0 p P) .nil .nil) (.node (o242_0 p P) .nil .nil)))) (.node (o26_0 p P) (.node (o42_0 p P) (.node (o74_0 p P) (.node (o138_0 p P) .nil .nil) (.node (o202_0 p P) .nil .nil)) (.node (o106_0 p P) (.node (o170_0 p P) .nil .nil) (.node (o234_0 p P) .nil .nil))) (.node (o58_0 p P) (.node (o90_0 p P) (.node (o154_0 p P) .nil .nil) (.node (o218_0 p P) .nil .nil)) (.node (o122_0 p P) (.node (o186_0 p P) .nil .nil) .nil)))) (.node (o14_0 p P) (.node (o22_0 p P) (.node (o38_0 p P) (.node (o70_0 p P) (.node (o134_0 p P) .nil .nil) (.node (o198_0 p P) .nil .nil)) (.node (o102_0 p P) (.node (o166_0 p P) .nil .nil) (.node (o230_0 p P) .nil .nil))) (.node (o54_0 p P) (.node (o86_0 p P) (.node (o150_0 p P) .nil .nil) (.node (o214_0 p P) .nil .nil)) (.node (o118_0 p P) (.node (o182_0 p P) .nil .nil) (.node (o246_0 p P) .nil .nil)))) (.node (o30_0 p P) (.node (o46_0 p P) (.node (o78_0 p P) (.node (o142_0 p P) .nil .nil) (.node (o206_0 p P) .nil .nil)) (.node (o110_0 p P) (.node (o174_0 p P) .nil .nil) (.node (o238_0 p P) .nil .nil))) (.node (o62_0 p P) (.node (o94_0 p P) (.node (o158_0 p P) .nil .nil) (.node (o222_0 p P) .nil .nil)) (.node (o126_0 p P) (.node (o190_0 p P) .nil .nil) .nil)))))))
noncomputable def S4 (w : World) (os : OsState) : SharedT := ⟨t4 pw w.params, 247, life, Array.mk [], drawn, 593, os⟩
noncomputable def o3_4 (p : Program) (P : Params) : Obj := { cls := PySem.Value.type "dict", data := PySem.Data.dict #[{ hash := PySem.PyData.keyHash P (PySem.Str.ofString "__name__"), key := PySem.Value.str (PySem.Str.ofString "__name__") 165, val := PySem.Value.str (PySem.Str.ofString "cpy313.difflib") 194 }, { hash := PySem.PyData.keyHash P (PySem.Str.ofString "__doc__"), key := PySem.Value.str (PySem.Str.ofString "__doc__") 166, val := PySem.Value.none }, { hash := PySem.PyData.keyHash P (PySem.Str.ofString "__package__"), key := PySem.Value.str (PySem.Str.ofString "__package__") 167, val := PySem.Value.none }, { hash := PySem.PyData.keyHash P (PySem.Str.ofString "__loader__"), key := PySem.Value.str (PySem.Str.ofString "__loader__") 168, val := PySem.Value.builtin "__main__.__loader__#opaque" }, { hash := PySem.PyData.keyHash P (PySem.Str.ofString "__spec__"), key := PySem.Value.str (PySem.Str.ofString "__spec__") 169, val := PySem.Value.none }, { hash := PySem.PyData.keyHash P (PySem.Str.ofString "__annotations__"), key := PySem.Value.str (PySem.Str.ofString "__annotations__") 170, val := PySem.Value.ref 6 }, { hash := PySem.PyData.keyHash P (PySem.Str.ofString "__builtins__"), key := PySem.Value.str (PySem.Str.ofString "__builtins__") 171, val := PySem.Value.ref 4 }, { hash := PySem.PyData.keyHash P (PySem.Str.ofString "__file__"), key := PySem.Value.str (PySem.Str.ofString "__file__") 173, val := PySem.Value.str (PySem.Str.ofString "/claim/cut.py") 172 }, { hash := PySem.PyData.keyHash P (PySem.Str.ofString "__cached__"), key := PySem.Value.str (PySem.Str.ofString "__cached__") 174, val := PySem.Value.none }, { hash := PySem.PyData.keyHash P (PySem.Str.ofString "_wall"), key := PySem.Value.str (PySem.Str.ofString "_wall") 193, val := PySem.Value.ref 21 }, { hash := PySem.PyData.keyHash P (PySem.Str.ofString "_tuplegetter"), key := PySem.Value.str (PySem.Str.ofString "_tuplegetter") 252, val := PySem.Value.ref 60 }, { hash := PySem.PyData.keyHash P (PySem.Str.ofString "Match"), key := PySem.Value.str (PySem.Str.ofString "Match") 380, val := PySem.Value.ref 135 }, { hash := PySem.PyData.keyHash P (PySem.Str.ofString "_calculate_ratio"), key := PySem.Value.str (PySem.Str.ofString "_calculate_ratio") 388, val := PySem.Value.ref 145 }, { hash := PySem.PyData.keyHash P (PySem.Str.ofString "SequenceMatcher"), key := PySem.Value.str (PySem.Str.ofString "SequenceMatcher") 592, val := PySem.Value.ref 242 }, { hash := PySem.PyData.keyHash P (PySem.Str.ofString "_keep_original_ws"), key := PySem.Value.str (PySem.Str.ofString "_keep_original_ws") 601, val := PySem.Value.ref 253 }] 15 }
noncomputable def o12_5 (p : Program) (P : Params) : Obj := { cls := PySem.Value.none, data := PySem.Data.fields #[PySem.Value.int 1 0, PySem.Value.int 0 0, PySem.Value.ref 20, PySem.Value.int 5 0, PySem.Value.int 0 0, PySem.Value.ref 27, PySem.Value.int 23 0, PySem.Value.int 0 0, PySem.Value.ref 71, PySem.Value.int 66 0, PySem.Value.int 0 0, PySem.Value.ref 144, PySem.Value.int 70 0, PySem.Value.int 0 0, PySem.Value.ref 151, PySem.Value.int 488 0, PySem.Value.int 0 0, PySem.Value.ref 252] }
noncomputable def o247_0 (p : Program) (P : Params) : Obj := { cls := PySem.Value.type "tuple", data := PySem.Data.seq #[] }
noncomputable def o248_0 (p : Program) (P : Params) : Obj := { cls := PySem.Value.none, data := PySem.Data.fields #[] }
noncomputable def o249_0 (p : Program) (P : Params) : Obj := { cls := PySem.Value.type "tuple", data := PySem.Data.seq #[PySem.Value.str (PySem.Str.ofString "s") 596, PySem.Value.str (PySem.Str.ofString "tag_s") 597] }
noncomputable def o250_0 (p : Program) (P : Params) : Obj := { cls := PySem.Value.type "tuple", data := PySem.Data.seq #[] }
noncomputable def o251_0 (p : Program) (P : Params) : Obj := { cls := PySem.Value.none, data := PySem.Data.func { name := PySem.Str.ofString "_keep_original_ws", qualname := PySem.Str.ofString "_keep_original_ws", params := fa_6 p, body := PySem.FuncBody.stmts (fb_6 p), scope := fs_6 p, globals := 0, closure := [], defaults := PySem.Value.none, kwdefaults := PySem.Value.none } }
noncomputable def o252_0 (p : Program) (P : Params) : Obj := { cls := PySem.Value.type "code", data := PySem.Data.fields #[PySem.Value.str (PySem.Str.ofString "_keep_original_ws") 593, PySem.Value.str (PySem.Str.ofString "_keep_original_ws") 594, PySem.Value.str (PySem.Str.ofString "/claim/cut.py") 595, PySem.Value.int 488 0, PySem.Value.int 2 0, PySem.Value.int 0 0, PySem.Value.int 0 0, PySem.Value.int 3 0, PySem.Value.ref 247, PySem.Value.bool Bool.true, PySem.Value.int 181 0, PySem.Value.ref 248, PySem.Value.none, PySem.Value.ref 249, PySem.Value.ref 250, PySem.Value.ref 251, PySem.Value.int 598 0, PySem.Value.int 488 0, PySem.Value.str (PySem.Str.ofString "/claim/cut.py") 599] }
noncomputable def o253_0 (p : Program) (P : Params) : Obj := { cls := PySem.Value.type "function", data := PySem.Data.func { name := PySem.Str.ofString "_keep_original_ws", qualname := PySem.Str.ofString "_keep_original_ws", params := fa_6 p, body := PySem.FuncBody.stmts (fb_6 p), scope := fs_6 p, globals := 3, closure := [], defaults := PySem.Value.none, kwdefaults := PySem.Value.none, doc := PySem.Value.str (fd_6 p) 600, pyModule := PySem.Value.str (PySem.Str.ofString "cpy313.difflib") 194, code := PySem.Value.ref 252 } }
noncomputable def t5 (p : Program) (P : Params) : BT := (.node (PySem.W.boot_o_0 P) (.node (PySem.W.boot_o_1 P) (.node (o3_4 p P) (.node (PySem.W.boot_o_7 P) (.node (o15_0 p P) (.node (o31_0 p P) (.node (o63_0 p P) (.node (o127_0 p P) .nil .nil) (.node (o191_0 p P) .nil .nil)) (.node (o95_0 p P) (.node (o159_0 p P) .nil .nil) (.node (o223_0 p P) .nil .nil))) (.node (o47_0 p P) (.node (o79_0 p P) (.node (o143_0 p P) .nil .nil) (.node (o207_0 p P) .nil .nil)) (.node (o111_0 p P) (.node (o175_0 p P) .nil .nil) (.node (o239_0 p P) .nil .nil)))) (.node (o23_0 p P) (.node (o39_0 p P) (.node (o71_0 p P) (.node (o135_0 p P) .nil .nil) (.node (o199_0 p P) .nil .nil)) (.node (o103_0 p P) (.node (o167_0 p P) .nil .nil) (.node (o231_0 p P) .nil .nil))) (.node (o55_0 p P) (.node (o87_0 p P) (.node (o151_0 p P) .nil .nil) (.node (o215_0 p P) .nil .nil)) (.node (o119_0 p P) (.node (o183_0 p P) .nil .nil) (.node (o247_0 p P) .nil .nil))))) (.node (o11_0 p P) (.node (o19_0 p P) (.node (o35_0 p P) (.node (o67_0 p P) (.node (o131_0 p P) .nil .nil) (.node (o195_0 p P) .nil .nil)) (.node (o99_0 p P) (.node (o163_0 p P) .nil .nil) (.node (o227_0 p P) .nil .nil))) (.node (o51_0 p P) (.node (o83_0 p P) (.node (o147_0 p P) .nil .nil) (.node (o211_0 p P) .nil .nil)) (.node (o115_0 p P) (.node (o179_0 p P) .nil .nil) (.node (o243_0 p P) .nil .nil)))) (.node (o27_0 p P) (.node (o43_0 p P) (.node (o75_0 p P) (.node (o139_0 p P) .nil .nil) (.node (o203_0 p P) .nil .nil)) (.node (o107_0 p P) (.node (o171_0 p P) .nil .nil) (.node (o235_0 p P) .nil .nil))) (.node (o59_0 p P) (.node (o91_0 p P) (.node (o155_0 p P) .nil .nil) (.node (o219_0 p P) .nil .nil)) (.node (o123_0 p P) (.node (o187_0 p P) .nil .nil) (.node (o251_0 p P) .nil .nil)))))) (.node (PySem.W.boot_o_5 P) (.node (PySem.W.boot_o_9 P) (.node (o17_0 p P) (.node (o33_0 p P) (.node (o65_0 p P) (.node (o129_0 p P) .nil .nil) (.node (o193_0 p P) .nil .nil)) (.node (o97_0 p P) (.node (o161_0 p P) .nil .nil) (.node (o225_0 p P) .nil .nil))) (.node (o49_0 p P) (.node (o81_0 p P) (.node (o145_0 p P) .nil .nil) (.node (o209_0 p P) .nil .nil)) (.node (o113_0 p P) (.node (o177_0 p P) .nil .nil) (.node (o241_0 p P) .nil .nil)))) (.node (o25_0 p P) (.node (o41_0 p P) (.node (o73_0 p P) (.node (o137_0 p P) .nil .nil) (.node (o201_0 p P) .nil .nil)) (.node (o105_0 p P) (.node (o169_0 p P) .nil .nil) (.node (o233_0 p P) .nil .nil))) (.node (o57_0 p P) (.node (o89_0 p P) (.node (o153_0 p P) .nil .nil) (.node (o217_0 p P) .nil .nil)) (.node (o121_0 p P) (.node (o185_0 p P) .nil .nil) (.node (o249_0 p P) .nil .nil))))) (.node (o13_0 p P) (.node (o21_0 p P) (.node (o37_0 p P) (.node (o69_0 p P) (.node (o133_0 p P) .nil .nil) (.node (o197_0 p P) .nil .nil)) (.node (o101_0 p P) (.node (o165_0 p P) .nil .nil) (.node (o229_0 p P) .nil .nil))) (.node (o53_0 p P) (.node (o85_0 p P) (.node (o149_0 p P) .nil .nil) (.node (o213_0 p P) .nil .nil)) (.node (o117_0 p P) (.node (o181_0 p P) .nil .nil) (.node (o245_0 p P) .nil .nil)))) (.node (o29_0 p P) (.node (o45_0 p P) (.node (o77_0 p P) (.node (o141_0 p P) .nil .nil) (.node (o205_0 p P) .nil .nil)) (.node (o109_0 p P) (.node (o173_0 p P) .nil .nil) (.node (o237_0 p P) .nil .nil))) (.node (o61_0 p P) (.node (o93_0 p P) (.node (o157_0 p P) .nil .nil) (.node (o221_0 p P) .nil .nil)) (.node (o125_0 p P) (.node (o189_0 p P) .nil .nil) (.node (o253_0 p P) .nil .nil))))))) (.node (PySem.W.boot_o_2 P) (.node (PySem.W.boot_o_4 P) (.node (PySem.W.boot_o_8 P) (.node (o16_0 p P) (.node (o32_0 p P) (.node (o64_0 p P) (.node (o128_0 p P) .nil .nil) (.node (o192_0 p P) .nil .nil)) (.node (o96_0 p P) (.node (o160_0 p P) .nil .nil) (.node (o224_0 p P) .nil .nil))) (.node (o48_0 p P) (.node (o80_0 p P) (.node (o144_0 p P) .nil .nil) (.node (o208_0 p P) .nil .nil)) (.node (o112_0 p P) (.node (o176_0 p P) .nil .nil) (.node (o240_0 p P) .nil .nil)))) (.node (o24_0 p P) (.node (o40_0 p P) (.node (o72_0 p P) (.node (o136_0 p P) .nil .nil) (.node (o200_0 p P) .nil .nil)) (.node (o104_0 p P) (.node (o168_0 p P) .nil .nil) (.node (o232_0 p P) .nil .nil))) (.node (o56_0 p P) (.node (o88_0 p P) (.node (o152_0 p P) .nil .nil) (.node (o216_0 p P) .nil .nil)) (.node (o120_0 p P) (.node (o184_0 p P) .nil .nil) (.node (o248_0 p P) .nil .nil))))) (.node (o12_5 p P) (.node (o20_0 p P) (.node (o36_0 p P) (.node (o68_0 p P) (.node (o132_0 p P) .nil .nil) (.node (o196_0 p P) .nil .nil)) (.node (o100_0 p P) (.node (o164_0 p P) .nil .nil) (.node (o228_0 p P) .nil .nil))) (.node (o52_0 p P) (.node (o84_0 p P) (.node (o148_0 p P) .nil .nil) (.node (o212_0 p P) .nil .nil)) (.node (o116_0 p P) (.node (o180_0 p P) .nil .nil) (.node (o244_0 p P) .nil .nil)))) (.node (o28_0 p P) (.node (o44_0 p P) (.node (o76_0 p P) (.node (o140_0 p P) .nil .nil) (.node (o204_0 p P) .nil .nil)) (.node (o108_0 p P) (.node (o172_0 p P) .nil .nil) (.node (o236_0 p P) .nil .nil))) (.node (o60_0 p P) (.node (o92_0 p P) (.node (o156_0 p P) .nil .nil) (.node (o220_0 p P) .nil .nil)) (.node (o124_0 p P) (.node (o188_0 p P) .nil .nil) (.node (o252_0 p P) .nil .nil)))))) (.node (PySem.W.boot_o_6 P) (.node (PySem.W.boot_o_10 P) (.node (o18_0 p P) (.node (o34_0 p P) (.node (o66_0 p P) (.node (o130_0 p P) .nil .nil) (.node (o194_0 p P) .nil .nil)) (.node (o98_0 p P) (.node (o162_0 p P) .nil .nil) (.node (o226_0 p P) .nil .nil))) (.node (o50_0 p P) (.node (o82_0 p P) (.node (o146_0 p P) .nil .nil) (.node (o210_0 p P) .nil .nil)) (.node (o114_0 p P) (.node (o178_0 p P) .nil .nil) (.node (o242_0 p P) .nil .nil)))) (.node (o26_0 p P) (.node (o42_0 p P) (.node (o74_0 p P) (.node (o138_0 p P) .nil .nil) (.node (o202_0 p P) .nil .nil)) (.node (o106_0 p P) (.node (o170_0 p P) .nil .nil) (.node (o234_0 p P) .nil .nil))) (.node (o58_0 p P) (.node (o90_0 p P) (.node (o154_0 p P) .nil .nil) (.node (o218_0 p P) .nil .nil)) (.node (o122_0 p P) (.node (o186_0 p P) .nil .nil) (.node (o250_0 p P) .nil .nil))))) (.node (o14_0 p P) (.node (o22_0 p P) (.node (o38_0 p P) (.node (o70_0 p P) (.node (o134_0 p P) .nil .nil) (.node (o198_0 p P) .nil .nil)) (.node (o102_0 p P) (.node (o166_0 p P) .nil .nil) (.node (o230_0 p P) .nil .nil))) (.node (o54_0 p P) (.node (o86_0 p P) (.node (o150_0 p P) .nil .nil) (.node (o214_0 p P) .nil .nil)) (.node (o118_0 p P) (.node (o182_0 p P) .nil .nil) (.node (o246_0 p P) .nil .nil)))) (.node (o30_0 p P) (.node (o46_0 p P) (.node (o78_0 p P) (.node (o142_0 p P) .nil .nil) (.node (o206_0 p P) .nil .nil)) (.node (o110_0 p P) (.node (o174_0 p P) .nil .nil) (.node (o238_0 p P) .nil .nil))) (.node (o62_0 p P) (.node (o94_0 p P) (.node (o158_0 p P) .nil .nil) (.node (o222_0 p P) .nil .nil)) (.node (o126_0 p P) (.node (o190_0 p P) .nil .nil) .nil)))))))
noncomputable def S5 (w : World) (os : OsState) : SharedT := ⟨t5 pw w.params, 254, life, Array.mk [], drawn, 602, os⟩
noncomputable def o3_5 (p : Program) (P : Params) : Obj := { cls := PySem.Value.type "dict", data := PySem.Data.dict #[{ hash := PySem.PyData.keyHash P (PySem.Str.ofString "__name__"), key := PySem.Value.str (PySem.Str.ofString "__name__") 165, val := PySem.Value.str (PySem.Str.ofString "cpy313.difflib") 194 }, { hash := PySem.PyData.keyHash P (PySem.Str.ofString "__doc__"), key := PySem.Value.str (PySem.Str.ofString "__doc__") 166, val := PySem.Value.none }, { hash := PySem.PyData.keyHash P (PySem.Str.ofString "__package__"), key := PySem.Value.str (PySem.Str.ofString "__package__") 167, val := PySem.Value.none }, { hash := PySem.PyData.keyHash P (PySem.Str.ofString "__loader__"), key := PySem.Value.str (PySem.Str.ofString "__loader__") 168, val := PySem.Value.builtin "__main__.__loader__#opaque" }, { hash := PySem.PyData.keyHash P (PySem.Str.ofString "__spec__"), key := PySem.Value.str (PySem.Str.ofString "__spec__") 169, val := PySem.Value.none }, { hash := PySem.PyData.keyHash P (PySem.Str.ofString "__annotations__"), key := PySem.Value.str (PySem.Str.ofString "__annotations__") 170, val := PySem.Value.ref 6 }, { hash := PySem.PyData.keyHash P (PySem.Str.ofString "__builtins__"), key := PySem.Value.str (PySem.Str.ofString "__builtins__") 171, val := PySem.Value.ref 4 }, { hash := PySem.PyData.keyHash P (PySem.Str.ofString "__file__"), key := PySem.Value.str (PySem.Str.ofString "__file__") 173, val := PySem.Value.str (PySem.Str.ofString "/claim/cut.py") 172 }, { hash := PySem.PyData.keyHash P (PySem.Str.ofString "__cached__"), key := PySem.Value.str (PySem.Str.ofString "__cached__") 174, val := PySem.Value.none }, { hash := PySem.PyData.keyHash P (PySem.Str.ofString "_wall"), key := PySem.Value.str (PySem.Str.ofString "_wall") 193, val := PySem.Value.ref 21 }, { hash := PySem.PyData.keyHash P (PySem.Str.ofString "_tuplegetter"), key := PySem.Value.str (PySem.Str.ofString "_tuplegetter") 252, val := PySem.Value.ref 60 }, { hash := PySem.PyData.keyHash P (PySem.Str.ofString "Match"), key := PySem.Value.str (PySem.Str.ofString "Match") 380, val := PySem.Value.ref 135 }, { hash := PySem.PyData.keyHash P (PySem.Str.ofString "_calculate_ratio"), key := PySem.Value.str (PySem.Str.ofString "_calculate_ratio") 388, val := PySem.Value.ref 145 }, { hash := PySem.PyData.keyHash P (PySem.Str.ofString "SequenceMatcher"), key := PySem.Value.str (PySem.Str.ofString "SequenceMatcher") 592, val := PySem.Value.ref 242 }, { hash := PySem.PyData.keyHash P (PySem.Str.ofString "_keep_original_ws"), key := PySem.Value.str (PySem.Str.ofString "_keep_original_ws") 601, val := PySem.Value.ref 253 }, { hash := PySem.PyData.keyHash P (PySem.Str.ofString "Differ"), key := PySem.Value.str (PySem.Str.ofString "Differ") 743, val := PySem.Value.ref 313 }] 16 }
noncomputable def o12_6 (p : Program) (P : Params) : Obj := { cls := PySem.Value.none, data := PySem.Data.fields #[PySem.Value.int 1 0, PySem.Value.int 0 0, PySem.Value.ref 20, PySem.Value.int 5 0, PySem.Value.int 0 0, PySem.Value.ref 27, PySem.Value.int 23 0, PySem.Value.int 0 0, PySem.Value.ref 71, PySem.Value.int 66 0, PySem.Value.int 0 0, PySem.Value.ref 144, PySem.Value.int 70 0, PySem.Value.int 0 0, PySem.Value.ref 151, PySem.Value.int 488 0, PySem.Value.int 0 0, PySem.Value.ref 252, PySem.Value.int 491 0, PySem.Value.int 0 0, PySem.Value.ref 259] }
noncomputable def o254_0 (p : Program) (P : Params) : Obj := { cls := PySem.Value.type "tuple", data := PySem.Data.seq #[] }
noncomputable def o255_0 (p : Program) (P : Params) : Obj := { cls := PySem.Value.type "builtin_function_or_method", data := PySem.Data.fields #[PySem.Value.builtin "type.__prepare__", PySem.Value.type "type"] }
noncomputable def o256_0 (p : Program) (P : Params) : Obj := { cls := PySem.Value.type "dict", data := PySem.Data.dict #[{ hash := PySem.PyData.keyHash P (PySem.Str.ofString "__module__"), key := PySem.Value.str (PySem.Str.ofString "__module__") 609, val := PySem.Value.str (PySem.Str.ofString "cpy313.difflib") 194 }, { hash := PySem.PyData.keyHash P (PySem.Str.ofString "__qualname__"), key := PySem.Value.str (PySem.Str.ofString "__qualname__") 611, val := PySem.Value.str (PySem.Str.ofString "Differ") 610 }, { hash := PySem.PyData.keyHash P (PySem.Str.ofString "__firstlineno__"), key := PySem.Value.str (PySem.Str.ofString "__firstlineno__") 613, val := PySem.Value.int 491 612 }, { hash := PySem.PyData.keyHash P (PySem.Str.ofString "__doc__"), key := PySem.Value.str (PySem.Str.ofString "__doc__") 615, val := PySem.Value.str (fd_7 p) 614 }, { hash := PySem.PyData.keyHash P (PySem.Str.ofString "__init__"), key := PySem.Value.str (PySem.Str.ofString "__init__") 626, val := PySem.Value.ref 268 }, { hash := PySem.PyData.keyHash P (PySem.Str.ofString "compare"), key := PySem.Value.str (PySem.Str.ofString "compare") 643, val := PySem.Value.ref 275 }, { hash := PySem.PyData.keyHash P (PySem.Str.ofString "_dump"), key := PySem.Value.str (PySem.Str.ofString "_dump") 656, val := PySem.Value.ref 282 }, { hash := PySem.PyData.keyHash P (PySem.Str.ofString "_plain_replace"), key := PySem.Value.str (PySem.Str.ofString "_plain_replace") 672, val := PySem.Value.ref 289 }, { hash := PySem.PyData.keyHash P (PySem.Str.ofString "_fancy_replace"), key := PySem.Value.str (PySem.Str.ofString "_fancy_replace") 708, val := PySem.Value.ref 296 }, { hash := PySem.PyData.keyHash P (PySem.Str.ofString "_fancy_helper"), key := PySem.Value.str (PySem.Str.ofString "_fancy_helper") 722, val := PySem.Value.ref 303 }, { hash := PySem.PyData.keyHash P (PySem.Str.ofString "_qformat"), key := PySem.Value.str (PySem.Str.ofString "_qformat") 734, val := PySem.Value.ref 310 }, { hash := PySem.PyData.keyHash P (PySem.Str.ofString "__static_attributes__"), key := PySem.Value.str (PySem.Str.ofString "__static_attributes__") 737, val := PySem.Value.ref 311 }] 12 }
noncomputable def o257_0 (p : Program) (P : Params) : Obj := { cls := PySem.Value.type "tuple", data := PySem.Data.seq #[] }
noncomputable def o258_0 (p : Program) (P : Params) : Obj := { cls := PySem.Value.none, data := PySem.Data.fields #[PySem.Value.int 577 0, PySem.Value.int 4 0, PySem.Value.ref 267, PySem.Value.int 599 0, PySem.Value.int 4 0, PySem.Value.ref 274, PySem.Value.int 638 0, PySem.Value.int 4 0, PySem.Value.ref 281, PySem.Value.int 643 0, PySem.Value.int 4 0, PySem.Value.ref 288, PySem.Value.int 654 0, PySem.Value.int 4 0, PySem.Value.ref 295, PySem.Value.int 718 0, PySem.Value.int 4 0, PySem.Value.ref 302, PySem.Value.int 729 0, PySem.Value.int 4 0, PySem.Value.ref 309] }
noncomputable def o259_0 (p : Program) (P : Params) : Obj := { cls := PySem.Value.type "code", data := PySem.Data.fields #[PySem.Value.str (PySem.Str.ofString "Differ") 604, PySem.Value.str (PySem.Str.ofString "Differ") 605, PySem.Value.str (PySem.Str.ofString "/claim/cut.py") 606, PySem.Value.int 491 0, PySem.Value.int 0 0, PySem.Value.int 0 0, PySem.Value.int 0 0, PySem.Value.int 0 0, PySem.Value.ref 257, PySem.Value.bool Bool.false, PySem.Value.int 181 0, PySem.Value.ref 258, PySem.Value.none, PySem.Value.none, PySem.Value.none, PySem.Value.none, PySem.Value.int 607 0, PySem.Value.int 491 0, PySem.Value.str (PySem.Str.ofString "/claim/cut.py") 608] }
noncomputable def o260_0 (p : Program) (P : Params) : Obj := { cls := PySem.Value.type "frame", slots := #[Option.some (PySem.Value.ref 259), Option.some (PySem.Value.ref 3), Option.some (PySem.Value.ref 256), Option.none, Option.some (PySem.Value.str (PySem.Str.ofString "cpy313.difflib") 194), Option.none, Option.some (PySem.Value.ref 0)] }
noncomputable def o261_0 (p : Program) (P : Params) : Obj := { cls := PySem.Value.type "tuple", data := PySem.Data.seq #[PySem.Value.none, PySem.Value.none] }
noncomputable def o262_0 (p : Program) (P : Params) : Obj := { cls := PySem.Value.type "tuple", data := PySem.Data.seq #[] }
noncomputable def o263_0 (p : Program) (P : Params) : Obj := { cls := PySem.Value.none, data := PySem.Data.fields #[] }
noncomputable def o264_0 (p : Program) (P : Params) : Obj := { cls := PySem.Value.type "tuple", data := PySem.Data.seq #[PySem.Value.str (PySem.Str.ofString "self") 620, PySem.Value.str (PySem.Str.ofString "linejunk") 621, PySem.Value.str (PySem.Str.ofString "charjunk") 622] }
noncomputable def o265_0 (p : Program) (P : Params) : Obj := { cls := PySem.Value.type "tuple", data := PySem.Data.seq #[] }
noncomputable def o266_0 (p : Program) (P : Params) : Obj := { cls := PySem.Value.none, data := PySem.Data.func { name := PySem.Str.ofString "__init__", qualname := PySem.Str.ofString "Differ.__init__", params := fa_7_1 p, body := PySem.FuncBody.stmts (fb_7_1 p), scope := fs_7_1 p, globals := 0, closure := [], defaults := PySem.Value.none, kwdefaults := PySem.Value.none } }
noncomputable def o267_0 (p : Program) (P : Params) : Obj := { cls := PySem.Value.type "code", data := PySem.Data.fields #[PySem.Value.str (PySem.Str.ofString "__init__") 617, PySem.Value.str (PySem.Str.ofString "Differ.__init__") 618, PySem.Value.str (PySem.Str.ofString "/claim/cut.py") 619, PySem.Value.int 577 0, PySem.Value.int 3 0, PySem.Value.int 0 0, PySem.Value.int 0 0, PySem.Value.int 3 0, PySem.Value.ref 262, PySem.Value.bool Bool.true, PySem.Value.int 181 0, PySem.Value.ref 263, PySem.Value.none, PySem.Value.ref 264, PySem.Value.ref 265, PySem.Value.ref 266, PySem.Value.int 623 0, PySem.Value.int 577 0, PySem.Value.str (PySem.Str.ofString "/claim/cut.py") 624] }
noncomputable def o268_0 (p : Program) (P : Params) : Obj := { cls := PySem.Value.type "function", data := PySem.Data.func { name := PySem.Str.ofString "__init__", qualname := PySem.Str.ofString "Differ.__init__", params := fa_7_1 p, body := PySem.FuncBody.stmts (fb_7_1 p), scope := fs_7_1 p, globals := 3, closure := [], defaults := PySem.Value.ref 261, kwdefaults := PySem.Value.none, doc := PySem.Value.str (fd_7_1 p) 625, pyModule := PySem.Value.str (PySem.Str.ofString "cpy313.difflib") 194, code := PySem.Value.ref 267 } }
noncomputable def o269_0 (p : Program) (P : Params) : Obj := { cls := PySem.Value.type "tuple", data := PySem.Data.seq #[] }
noncomputable def o270_0 (p : Program) (P : Params) : Obj := { cls := PySem.Value.none, data := PySem.Data.fields #[] }
noncomputable def o271_0 (p : Program) (P : Params) : Obj := { cls := PySem.Value.type "tuple", data := PySem.Data.seq #[PySem.Value.str (PySem.Str.ofString "self") 630, PySem.Value.str (PySem.Str.ofString "a") 631, PySem.Value.str (PySem.Str.ofString "b") 632, PySem.Value.str (PySem.Str.ofString "cruncher") 633, PySem.Value.str (PySem.Str.ofString "tag") 634, PySem.Value.str (PySem.Str.ofString "alo") 635, PySem.Value.str (PySem.Str.ofString "ahi") 636, PySem.Value.str (PySem.Str.ofString "blo") 637, PySem.Value.str (PySem.Str.ofString "bhi") 638, PySem.Value.str (PySem.Str.ofString "g") 639] }
noncomputable def o272_0 (p : Program) (P : Params) : Obj := { cls := PySem.Value.type "tuple", data := PySem.Data.seq #[] }
noncomputable def o273_0 (p : Program) (P : Params) : Obj := { cls := PySem.Value.none, data := PySem.Data.func { name := PySem.Str.ofString "compare", qualname := PySem.Str.ofString "Differ.compare", params := fa_7_2 p, body := PySem.FuncBody.stmts (fb_7_2 p), scope := fs_7_2 p, globals := 0, closure := [], defaults := PySem.Value.none, kwdefaults := PySem.Value.none } }
noncomputable def o274_0 (p : Program) (P : Params) : Obj := { cls := PySem.Value.type "code", data := PySem.Data.fields #[PySem.Value.str (PySem.Str.ofString "compare") 627, PySem.Value.str (PySem.Str.ofString "Differ.compare") 628, PySem.Value.str (PySem.Str.ofString "/claim/cut.py") 629, PySem.Value.int 599 0, PySem.Value.int 3 0, PySem.Value.int 0 0, PySem.Value.int 0 0, PySem.Value.int 35 0, PySem.Value.ref 269, PySem.Value.bool Bool.true, PySem.Value.int 181 0, PySem.Value.ref 270, PySem.Value.none, PySem.Value.ref 271, PySem.Value.ref 272, PySem.Value.ref 273, PySem.Value.int 640 0, PySem.Value.int 599 0, PySem.Value.str (PySem.Str.ofString "/claim/cut.py") 641] }
noncomputable def o275_0 (p : Program) (P : Params) : Obj := { cls := PySem.Value.type "function", data := PySem.Data.func { name := PySem.Str.ofString "compare", qualname := PySem.Str.ofString "Differ.compare", params := fa_7_2 p, body := PySem.FuncBody.stmts (fb_7_2 p), scope := fs_7_2 p, globals := 3, closure := [], defaults := PySem.Value.none, kwdefaults := PySem.Value.none, doc := PySem.Value.str (fd_7_2 p) 642, pyModule := PySem.Value.str (PySem.Str.ofString "cpy313.difflib") 194, code := PySem.Value.ref 274 } }
noncomputable def o276_0 (p : Program) (P : Params) : Obj := { cls := PySem.Value.type "tuple", data := PySem.Data.seq #[] }
noncomputable def o277_0 (p : Program) (P : Params) : Obj := { cls := PySem.Value.none, data := PySem.Data.fields #[] }
noncomputable def o278_0 (p : Program) (P : Params) : Obj := { cls := PySem.Value.type "tuple", data := PySem.Data.seq #[PySem.Value.str (PySem.Str.ofString "self") 647, PySem.Value.str (PySem.Str.ofString "tag") 648, PySem.Value.str (PySem.Str.ofString "x") 649, PySem.Value.str (PySem.Str.ofString "lo") 650, PySem.Value.str (PySem.Str.ofString "hi") 651, PySem.Value.str (PySem.Str.ofString "i") 652] }
noncomputable def o279_0 (p : Program) (P : Params) : Obj := { cls := PySem.Value.type "tuple", data := PySem.Data.seq #[] }
noncomputable def o280_0 (p : Program) (P : Params) : Obj := { cls := PySem.Value.none, data := PySem.Data.func { name := PySem.Str.ofString "_dump", qualname := PySem.Str.ofString "Differ._dump", params := fa_7_3 p, body := PySem.FuncBody.stmts (fb_7_3 p), scope := fs_7_3 p, globals := 0, closure := [], defaults := PySem.Value.none, kwdefaults := PySem.Value.none } }
noncomputable def o281_0 (p : Program) (P : Params) : Obj := { cls := PySem.Value.type "code", data := PySem.Data.fields #[PySem.Value.str (PySem.Str.ofString "_dump") 644, PySem.Value.str (PySem.Str.ofString "Differ._dump") 645, PySem.Value.str (PySem.Str.ofString "/claim/cut.py") 646, PySem.Value.int 638 0, PySem.Value.int 5 0, PySem.Value.int 0 0, PySem.Value.int 0 0, PySem.Value.int 35 0, PySem.Value.ref 276, PySem.Value.bool Bool.true, PySem.Value.int 181 0, PySem.Value.ref 277, PySem.Value.none, PySem.Value.ref 278, PySem.Value.ref 279, PySem.Value.ref 280, PySem.Value.int 653 0, PySem.Value.int 638 0, PySem.Value.str (PySem.Str.ofString "/claim/cut.py") 654] }
noncomputable def o282_0 (p : Program) (P : Params) : Obj := { cls := PySem.Value.type "function", data := PySem.Data.func { name := PySem.Str.ofString "_dump", qualname := PySem.Str.ofString "Differ._dump", params := fa_7_3 p, body := PySem.FuncBody.stmts (fb_7_3 p), scope := fs_7_3 p, globals := 3, closure := [], defaults := PySem.Value.none, kwdefaults := PySem.Value.none, doc := PySem.Value.str (fd_7_3 p) 655, pyModule := PySem.Value.str (PySem.Str.ofString "cpy313.difflib") 194, code := PySem.Value.ref 281 } }
noncomputable def o283_0 (p : Program) (P : Params) : Obj := { cls := PySem.Value.type "tuple", data := PySem.Data.seq #[] }
noncomputable def o284_0 (p : Program) (P : Params) : Obj := { cls := PySem.Value.none, data := PySem.Data.fields #[] }
noncomputable def o285_0 (p : Program) (P : Params) : Obj := { cls := PySem.Value.type "tuple", data := PySem.Data.seq #[PySem.Value.str (PySem.Str.ofString "self") 660, PySem.Value.str (PySem.Str.ofString "a") 661, PySem.Value.str (PySem.Str.ofString "alo") 662, PySem.Value.str (PySem.Str.ofString "ahi") 663, PySem.Value.str (PySem.Str.ofString "b") 664, PySem.Value.str (PySem.Str.ofString "blo") 665, PySem.Value.str (PySem.Str.ofString "bhi") 666, PySem.Value.str (PySem.Str.ofString "first") 667, PySem.Value.str (PySem.Str.ofString "second") 668, PySem.Value.str (PySem.Str.ofString "g") 669] }
noncomputable def o286_0 (p : Program) (P : Params) : Obj := { cls := PySem.Value.type "tuple", data := PySem.Data.seq #[] }
noncomputable def o287_0 (p : Program) (P : Params) : Obj := { cls := PySem.Value.none, data := PySem.Data.func { name := PySem.Str.ofString "_plain_replace", qualname := PySem.Str.ofString "Differ._plain_replace", params := fa_7_4 p, body := PySem.FuncBody.stmts (fb_7_4 p), scope := fs_7_4 p, globals := 0, closure := [], defaults := PySem.Value.none, kwdefaults := PySem.Value.none } }
noncomputable def o288_0 (p : Program) (P : Params) : Obj := { cls := PySem.Value.type "code", data := PySem.Data.fields #[PySem.Value.str (PySem.Str.ofString "_plain_replace") 657, PySem.Value.str (PySem.Str.ofString "Differ._plain_replace") 658, PySem.Value.str (PySem.Str.ofString "/claim/cut.py") 659, PySem.Value.int 643 0, PySem.Value.int 7 0, PySem.Value.int 0 0, PySem.Value.int 0 0, PySem.Value.int 35 0, PySem.Value.ref 283, PySem.Value.bool Bool.true, PySem.Value.int 181 0, PySem.Value.ref 284, PySem.Value.none, PySem.Value.ref 285, PySem.Value.ref 286, PySem.Value.ref 287, PySem.Value.int 670 0, PySem.Value.int 643 0, PySem.Value.str (PySem.Str.ofString "/claim/cut.py") 671] }
noncomputable def o289_0 (p : Program) (P : Params) : Obj := { cls := PySem.Value.type "function", data := PySem.Data.func { name := PySem.Str.ofString "_plain_replace", qualname := PySem.Str.ofString "Differ._plain_replace", params := fa_7_4 p, body := PySem.FuncBody.stmts (fb_7_4 p), scope := fs_7_4 p, globals := 3, closure := [], defaults := PySem.Value.none, kwdefaults := PySem.Value.none, pyModule := PySem.Value.str (PySem.Str.ofString "cpy313.difflib") 194, code := PySem.Value.ref 288 } }
noncomputable def o290_0 (p : Program) (P : Params) : Obj := { cls := PySem.Value.type "tuple", data := PySem.Data.seq #[] }
noncomputable def o291_0 (p : Program) (P : Params) : Obj := { cls := PySem.Value.none, data := PySem.Data.fields #[] }
noncomputable def o292_0 (p : Program) (P : Params) : Obj := { cls := PySem.Value.type "tuple", data := PySem.Data.seq #[PySem.Value.str (PySem.Str.ofString "self") 676, PySem.Value.str (PySem.Str.ofString "a") 677, PySem.Value.str (PySem.Str.ofString "alo") 678, PySem.Value.str (PySem.Str.ofString "ahi") 679, PySem.Value.str (PySem.Str.ofString "b") 680, PySem.Value.str (PySem.Str.ofString "blo") 681, PySem.Value.str (PySem.Str.ofString "bhi") 682, PySem.Value.str (PySem.Str.ofString "best_ratio") 683, PySem.Value.str (PySem.Str.ofString "cutoff") 684, PySem.Value.str (PySem.Str.ofString "cruncher") 685, PySem.Value.str (PySem.Str.ofString "eqi") 686, PySem.Value.str (PySem.Str.ofString "eqj") 687, PySem.Value.str (PySem.Str.ofString "j") 688, PySem.Value.str (PySem.Str.ofString "bj") 689, PySem.Value.str (PySem.Str.ofString "i") 690, PySem.Value.str (PySem.Str.ofString "ai") 691, PySem.Value.str (PySem.Str.ofString "best_i") 692, PySem.Value.str (PySem.Str.ofString "best_j") 693, PySem.Value.str (PySem.Str.ofString "aelt") 694, PySem.Value.str (PySem.Str.ofString "belt") 695, PySem.Value.str (PySem.Str.ofString "atags") 696, PySem.Value.str (PySem.Str.ofString "btags") 697, PySem.Value.str (PySem.Str.ofString "tag") 698, PySem.Value.str (PySem.Str.ofString "ai1") 699, PySem.Value.str (PySem.Str.ofString "ai2") 700, PySem.Value.str (PySem.Str.ofString "bj1") 701, PySem.Value.str (PySem.Str.ofString "bj2") 702, PySem.Value.str (PySem.Str.ofString "la") 703, PySem.Value.str (PySem.Str.ofString "lb") 704] }
noncomputable def o293_0 (p : Program) (P : Params) : Obj := { cls := PySem.Value.type "tuple", data := PySem.Data.seq #[] }
noncomputable def o294_0 (p : Program) (P : Params) : Obj := { cls := PySem.Value.none, data := PySem.Data.func { name := PySem.Str.ofString "_fancy_replace", qualname := PySem.Str.ofString "Differ._fancy_replace", params := fa_7_5 p, body := PySem.FuncBody.stmts (fb_7_5 p), scope := fs_7_5 p, globals := 0, closure := [], defaults := PySem.Value.none, kwdefaults := PySem.Value.none } }
noncomputable def o295_0 (p : Program) (P : Params) : Obj := { cls := PySem.Value.type "code", data := PySem.Data.fields #[PySem.Value.str (PySem.Str.ofString "_fancy_replace") 673, PySem.Value.str (PySem.Str.ofString "Differ._fancy_replace") 674, PySem.Value.str (PySem.Str.ofString "/claim/cut.py") 675, PySem.Value.int 654 0, PySem.Value.int 7 0, PySem.Value.int 0 0, PySem.Value.int 0 0, PySem.Value.int 35 0, PySem.Value.ref 290, PySem.Value.bool Bool.true, PySem.Value.int 181 0, PySem.Value.ref 291, PySem.Value.none, PySem.Value.ref 292, PySem.Value.ref 293, PySem.Value.ref 294, PySem.Value.int 705 0, PySem.Value.int 654 0, PySem.Value.str (PySem.Str.ofString "/claim/cut.py") 706] }
noncomputable def o296_0 (p : Program) (P : Params) : Obj := { cls := PySem.Value.type "function", data := PySem.Data.func { name := PySem.Str.ofString "_fancy_replace", qualname := PySem.Str.ofString "Differ._fancy_replace", params := fa_7_5 p, body := PySem.FuncBody.stmts (fb_7_5 p), scope := fs_7_5 p, globals := 3, closure := [], defaults := PySem.Value.none, kwdefaults := PySem.Value.none, doc := PySem.Value.str (fd_7_5 p) 707, pyModule := PySem.Value.str (PySem.Str.ofString "cpy313.difflib") 194, code := PySem.Value.ref 295 } }
noncomputable def o297_0 (p : Program) (P : Params) : Obj := { cls := PySem.Value.type "tuple", data := PySem.Data.seq #[] }
noncomputable def o298_0 (p : Program) (P : Params) : Obj := { cls := PySem.Value.none, data := PySem.Data.fields #[] }
noncomputable def o299_0 (p : Program) (P : Params) : Obj := { cls := PySem.Value.type "tuple", data := PySem.Data.seq #[PySem.Value.str (PySem.Str.ofString "self") 712, PySem.Value.str (PySem.Str.ofString "a") 713, PySem.Value.str (PySem.Str.ofString "alo") 714, PySem.Value.str (PySem.Str.ofString "ahi") 715, PySem.Value.str (PySem.Str.ofString "b") 716, PySem.Value.str (PySem.Str.ofString "blo") 717, PySem.Value.str (PySem.Str.ofString "bhi") 718, PySem.Value.str (PySem.Str.ofString "g") 719] }
noncomputable def o300_0 (p : Program) (P : Params) : Obj := { cls := PySem.Value.type "tuple", data := PySem.Data.seq #[] }
noncomputable def o301_0 (p : Program) (P : Params) : Obj := { cls := PySem.Value.none, data := PySem.Data.func { name := PySem.Str.ofString "_fancy_helper", qualname := PySem.Str.ofString "Differ._fancy_helper", params := fa_7_6 p, body := PySem.FuncBody.stmts (fb_7_6 p), scope := fs_7_6 p, globals := 0, closure := [], defaults := PySem.Value.none, kwdefaults := PySem.Value.none } }
noncomputable def o302_0 (p : Program) (P : Params) : Obj := { cls := PySem.Value.type "code", data := PySem.Data.fields #[PySem.Value.str (PySem.Str.ofString "_fancy_helper") 709, PySem.Value.str (PySem.Str.ofString "Differ._fancy_helper") 710, PySem.Value.str (PySem.Str.ofString "/claim/cut.py") 711, PySem.Value.int 718 0, PySem.Value.int 7 0, PySem.Value.int 0 0, PySem.Value.int 0 0, PySem.Value.int 35 0, PySem.Value.ref 297, PySem.Value.bool Bool.true, PySem.Value.int 181 0, PySem.Value.ref 298, PySem.Value.none, PySem.Value.ref 299, PySem.Value.ref 300, PySem.Value.ref 301, PySem.Value.int 720 0, PySem.Value.int 718 0, PySem.Value.str (PySem.Str.ofString "/claim/cut.py") 721] }
noncomputable def o303_0 (p : Program) (P : Params) : Obj := { cls := PySem.Value.type "function", data := PySem.Data.func { name := PySem.Str.ofString "_fancy_helper", qualname := PySem.Str.ofString "Differ._fancy_helper", params := fa_7_6 p, body := PySem.FuncBody.stmts (fb_7_6 p), scope := fs_7_6 p, globals := 3, closure := [], defaults := PySem.Value.none, kwdefaults := PySem.Value.none, pyModule := PySem.Value.str (PySem.Str.ofString "cpy313.difflib") 194, code := PySem.Value.ref 302 } }
noncomputable def o304_0 (p : Program) (P : Params) : Obj := { cls := PySem.Value.type "tuple", data := PySem.Data.seq #[] }
noncomputable def o305_0 (p : Program) (P : Params) : Obj := { cls := PySem.Value.none, data := PySem.Data.fields #[] }
noncomputable def o306_0 (p : Program) (P : Params) : Obj := { cls := PySem.Value.type "tuple", data := PySem.Data.seq #[PySem.Value.str (PySem.Str.ofString "self") 726, PySem.Value.str (PySem.Str.ofString "aline") 727, PySem.Value.str (PySem.Str.ofString "bline") 728, PySem.Value.str (PySem.Str.ofString "atags") 729, PySem.Value.str (PySem.Str.ofString "btags") 730] }
noncomputable def o307_0 (p : Program) (P : Params) : Obj := { cls := PySem.Value.type "tuple", data := PySem.Data.seq #[] }
noncomputable def o308_0 (p : Program) (P : Params) : Obj := { cls := PySem.Value.none, data := PySem.Data.func { name := PySem.Str.ofString "_qformat", qualname := PySem.Str.ofString "Differ._qformat", params := fa_7_7 p, body := PySem.FuncBody.stmts (fb_7_7 p), scope := fs_7_7 p, globals := 0, closure := [], defaults := PySem.Value.none, kwdefaults := PySem.Value.none } }
noncomputable def o309_0 (p : Program) (P : Params) : Obj := { cls := PySem.Value.type "code", data := PySem.Data.fields #[PySem.Value.str (PySem.Str.ofString "_qformat") 723, PySem.Value.str (PySem.Str.ofString "Differ._qformat") 724, PySem.Value.str (PySem.Str.ofString "/claim/cut.py") 725, PySem.Value.int 729 0, PySem.Value.int 5 0, PySem.Value.int 0 0, PySem.Value.int 0 0, PySem.Value.int 35 0, PySem.Value.ref 304, PySem.Value.bool Bool.true, PySem.Value.int 181 0, PySem.Value.ref 305, PySem.Value.none, PySem.Value.ref 306, PySem.Value.ref 307, PySem.Value.ref 308, PySem.Value.int 731 0, PySem.Value.int 729 0, PySem.Value.str (PySem.Str.ofString "/claim/cut.py") 732] }
noncomputable def o310_0 (p : Program) (P : Params) : Obj := { cls := PySem.Value.type "function", data := PySem.Data.func { name := PySem.Str.ofString "_qformat", qualname := PySem.Str.ofString "Differ._qformat", params := fa_7_7 p, body := PySem.FuncBody.stmts (fb_7_7 p), scope := fs_7_7 p, globals := 3, closure := [], defaults := PySem.Value.none, kwdefaults := PySem.Value.none, doc := PySem.Value.str (fd_7_7 p) 733, pyModule := PySem.Value.str (PySem.Str.ofString "cpy313.difflib") 194, code := PySem.Value.ref 309 } }
noncomputable def o311_0 (p : Program) (P : Params) : Obj := { cls := PySem.Value.type "tuple", data := PySem.Data.seq #[PySem.Value.str (PySem.Str.ofString "charjunk") 735, PySem.Value.str (PySem.Str.ofString "linejunk") 736] }
noncomputable def o312_0 (p : Program) (P : Params) : Obj := { cls := PySem.Value.type "dict", data := PySem.Data.dict #[{ hash := PySem.PyData.keyHash P (PySem.Str.ofString "__module__"), key := PySem.Value.str (PySem.Str.ofString "__module__") 609, val := PySem.Value.str (PySem.Str.ofString "cpy313.difflib") 194 }, { hash := PySem.PyData.keyHash P (PySem.Str.ofString "__firstlineno__"), key := PySem.Value.str (PySem.Str.ofString "__firstlineno__") 613, val := PySem.Value.int 491 612 }, { hash := PySem.PyData.keyHash P (PySem.Str.ofString "__doc__"), key := PySem.Value.str (PySem.Str.ofString "__doc__") 615, val := PySem.Value.str (fd_7 p) 614 }, { hash := PySem.PyData.keyHash P (PySem.Str.ofString "__init__"), key := PySem.Value.str (PySem.Str.ofString "__init__") 626, val := PySem.Value.ref 268 }, { hash := PySem.PyData.keyHash P (PySem.Str.ofString "compare"), key := PySem.Value.str (PySem.Str.ofString "compare") 643, val := PySem.Value.ref 275 }, { hash := PySem.PyData.keyHash P (PySem.Str.ofString "_dump"), key := PySem.Value.str (PySem.Str.ofString "_dump") 656, val := PySem.Value.ref 282 }, { hash := PySem.PyData.keyHash P (PySem.Str.ofString "_plain_replace"), key := PySem.Value.str (PySem.Str.ofString "_plain_replace") 672, val := PySem.Value.ref 289 }, { hash := PySem.PyData.keyHash P (PySem.Str.ofString "_fancy_replace"), key := PySem.Value.str (PySem.Str.ofString "_fancy_replace") 708, val := PySem.Value.ref 296 }, { hash := PySem.PyData.keyHash P (PySem.Str.ofString "_fancy_helper"), key := PySem.Value.str (PySem.Str.ofString "_fancy_helper") 722, val := PySem.Value.ref 303 }, { hash := PySem.PyData.keyHash P (PySem.Str.ofString "_qformat"), key := PySem.Value.str (PySem.Str.ofString "_qformat") 734, val := PySem.Value.ref 310 }, { hash := PySem.PyData.keyHash P (PySem.Str.ofString "__static_attributes__"), key := PySem.Value.str (PySem.Str.ofString "__static_attributes__") 737, val := PySem.Value.ref 311 }, { hash := PySem.PyData.keyHash P (PySem.Str.ofString "__dict__"), key := PySem.Value.str (PySem.Str.ofString "__dict__") 739, val := PySem.Value.ref 314 }, { hash := PySem.PyData.keyHash P (PySem.Str.ofString "__weakref__"), key := PySem.Value.str (PySem.Str.ofString "__weakref__") 741, val := PySem.Value.ref 315 }] 3 }
noncomputable def o313_0 (p : Program) (P : Params) : Obj := { cls := PySem.Value.type "type", data := PySem.Data.cls { name := PySem.Str.ofString "Differ", bases := [PySem.Value.type "object"], mro := [PySem.Value.ref 313, PySem.Value.type "object"], ns := 312, qualname := PySem.Str.ofString "Differ" }, slots := #[Option.none, Option.none, Option.some (PySem.Value.str (PySem.Str.ofString "Differ") 602), Option.some (PySem.Value.str (PySem.Str.ofString "Differ") 610), Option.some (PySem.Value.builtin "object.__new__"), Option.some (PySem.Value.bool Bool.true)] }
noncomputable def o314_0 (p : Program) (P : Params) : Obj := { cls := PySem.Value.type "getset_descriptor", data := PySem.Data.fields #[PySem.Value.str (PySem.Str.ofString "__dict__") 738, PySem.Value.ref 313, PySem.Value.builtin "function.__dict__", PySem.Value.builtin "function.__dict__#set"] }
noncomputable def o315_0 (p : Program) (P : Params) : Obj := { cls := PySem.Value.type "getset_descriptor", data := PySem.Data.fields #[PySem.Value.str (PySem.Str.ofString "__weakref__") 740, PySem.Value.ref 313, PySem.Value.builtin "ExceptionGroup.__weakref__", PySem.Value.none] }
noncomputable def o316_0 (p : Program) (P : Params) : Obj := { cls := PySem.Value.type "super", data := PySem.Data.fields #[PySem.Value.ref 313, PySem.Value.ref 313, PySem.Value.ref 313] }
noncomputable def o317_0 (p : Program) (P : Params) : Obj := { cls := PySem.Value.type "builtin_function_or_method", data := PySem.Data.fields #[PySem.Value.builtin "object.__init_subclass__", PySem.Value.ref 313] }
noncomputable def t6 (p : Program) (P : Params) : BT := (.node (PySem.W.boot_o_0 P) (.node (PySem.W.boot_o_1 P) (.node (o3_5 p P) (.node (PySem.W.boot_o_7 P) (.node (o15_0 p P) (.node (o31_0 p P) (.node (o63_0 p P) (.node (o127_0 p P) (.node (o255_0 p P) .nil .nil) .nil) (.node (o191_0 p P) .nil .nil)) (.node (o95_0 p P) (.node (o159_0 p P) (.node (o287_0 p P) .nil .nil) .nil) (.node (o223_0 p P) .nil .nil))) (.node (o47_0 p P) (.node (o79_0 p P) (.node (o143_0 p P) (.node (o271_0 p P) .nil .nil) .nil) (.node (o207_0 p P) .nil .nil)) (.node (o111_0 p P) (.node (o175_0 p P) (.node (o303_0 p P) .nil .nil) .nil) (.node (o239_0 p P) .nil .nil)))) (.node (o23_0 p P) (.node (o39_0 p P) (.node (o71_0 p P) (.node (o135_0 p P) (.node (o263_0 p P) .nil .nil) .nil) (.node (o199_0 p P) .nil .nil)) (.node (o103_0 p P) (.node (o167_0 p P) (.node (o295_0 p P) .nil .nil) .nil) (.node (o231_0 p P) .nil .nil))) (.node (o55_0 p P) (.node (o87_0 p P) (.node (o151_0 p P) (.node (o279_0 p P) .nil .nil) .nil) (.node (o215_0 p P) .nil .nil)) (.node (o119_0 p P) (.node (o183_0 p P) (.node (o311_0 p P) .nil .nil) .nil) (.node (o247_0 p P) .nil .nil))))) (.node (o11_0 p P) (.node (o19_0 p P) (.node (o35_0 p P) (.node (o67_0 p P) (.node (o131_0 p P) (.node (o259_0 p P) .nil .nil) .nil) (.node (o195_0 p P) .nil .nil)) (.node (o99_0 p P) (.node (o163_0 p P) (.node (o291_0 p P) .nil .nil) .nil) (.node (o227_0 p P) .nil .nil))) (.node (o51_0 p P) (.node (o83_0 p P) (.node (o147_0 p P) (.node (o275_0 p P) .nil .nil) .nil) (.node (o211_0 p P) .nil .nil)) (.node (o115_0 p P) (.node (o179_0 p P) (.node (o307_0 p P) .nil .nil) .nil) (.node (o243_0 p P) .nil .nil)))) (.node (o27_0 p P) (.node (o43_0 p P) (.node (o75_0 p P) (.node (o139_0 p P) (.node (o267_0 p P) .nil .nil) .nil) (.node (o203_0 p P) .nil .nil)) (.node (o107_0 p P) (.node (o171_0 p P) (.node (o299_0 p P) .nil .nil) .nil) (.node (o235_0 p P) .nil .nil))) (.node (o59_0 p P) (.node (o91_0 p P) (.node (o155_0 p P) (.node (o283_0 p P) .nil .nil) .nil) (.node (o219_0 p P) .nil .nil)) (.node (o123_0 p P) (.node (o187_0 p P) (.node (o315_0 p P) .nil .nil) .nil) (.node (o251_0 p P) .nil .nil)))))) (.node (PySem.W.boot_o_5 P) (.node (PySem.W.boot_o_9 P) (.node (o17_0 p P) (.node (o33_0 p P) (.node (o65_0 p P) (.node (o129_0 p P) (.node (o257_0 p P) .nil .nil) .nil) (.node (o193_0 p P) .nil .nil)) (.node (o97_0 p P) (.node (o161_0 p P) (.node (o289_0 p P) .nil .nil) .nil) (.node (o225_0 p P) .nil .nil))) (.node (o49_0 p P) (.node (o81_0 p P) (.node (o145_0 p P) (.node (o273_0 p P) .nil .nil) .nil) (.node (o209_0 p P) .nil .nil)) (.node (o113_0 p P) (.node (o177_0 p P) (.node (o305_0 p P) .nil .nil) .nil) (.node (o241_0 p P) .nil .nil)))) (.node (o25_0 p P) (.node (o41_0 p P) (.node (o73_0 p P) (.node (o137_0 p P) (.node (o265_0 p P) .nil .nil) .nil) (.node (o201_0 p P) .nil .nil)) (.node (o105_0 p P) (.node (o169_0 p P) (.node (o297_0 p P) .nil .nil) .nil) (.node (o233_0 p P) .nil .nil))) (.node (o57_0 p P) (.node (o89_0 p P) (.node (o153_0 p P) (.node (o281_0 p P) .nil .nil) .nil) (.node (o217_0 p P) .nil .nil)) (.node (o121_0 p P) (.node (o185_0 p P) (.node (o313_0 p P) .nil .nil) .nil) (.node (o249_0 p P) .nil .nil))))) (.node (o13_0 p P) (.node (o21_0 p P) (.node (o37_0 p P) (.node (o69_0 p P) (.node (o133_0 p P) (.node (o261_0 p P) .nil .nil) .nil) (.node (o197_0 p P) .nil .nil)) (.node (o101_0 p P) (.node (o165_0 p P) (.node (o293_0 p P) .nil .nil) .nil) (.node (o229_0 p P) .nil .nil))) (.node (o53_0 p P) (.node (o85_0 p P) (.node (o149_0 p P) (.node (o277_0 p P) .nil .nil) .nil) (.node (o213_0 p P) .nil .nil)) (.node (o117_0 p P) (.node (o181_0 p P) (.node (o309_0 p P) .nil .nil) .nil) (.node (o245_0 p P) .nil .nil)))) (.node (o29_0 p P) (.node (o45_0 p P) (.node (o77_0 p P) (.node (o141_0 p P) (.node (o269_0 p P) .nil .nil) .nil) (.node (o205_0 p P) .nil .nil)) (.node (o109_0 p P) (.node (o173_0 p P) (.node (o301_0 p P) .nil .nil) .nil) (.node (o237_0 p P) .nil .nil))) (.node (o61_0 p P) (.node (o93_0 p P) (.node (o157_0 p P) (.node (o285_0 p P) .nil .nil) .nil) (.node (o221_0 p P) .nil .nil)) (.node (o125_0 p P) (.node (o189_0 p P) (.node (o317_0 p P) .nil .nil) .nil) (.node (o253_0 p P) .nil .nil))))))) (.node (PySem.W.boot_o_2 P) (.node (PySem.W.boot_o_4 P) (.node (PySem.W.boot_o_8 P) (.node (o16_0 p P) (.node (o32_0 p P) (.node (o64_0 p P) (.node (o128_0 p P) (.node (o256_0 p P) .nil .nil) .nil) (.node (o192_0 p P) .nil .nil)) (.node (o96_0 p P) (.node (o160_0 p P) (.node (o288_0 p P) .nil .nil) .nil) (.node (o224_0 p P) .nil .nil))) (.node (o48_0 p P) (.node (o80_0 p P) (.node (o144_0 p P) (.node (o272_0 p P) .nil .nil) .nil) (.node (o208_0 p P) .nil .nil)) (.node (o112_0 p P) (.node (o176_0 p P) (.node (o304_0 p P) .nil .nil) .nil) (.node (o240_0 p P) .nil .nil)))) (.node (o24_0 p P) (.node (o40_0 p P) (.node (o72_0 p P) (.node (o136_0 p P) (.node (o264_0 p P) .nil .nil) .nil) (.node (o200_0 p P) .nil .nil)) (.node (o104_0 p P) (.node (o168_0 p P) (.node (o296_0 p P) .nil .nil) .nil) (.node (o232_0 p P) .nil .nil))) (.node (o56_0 p P) (.node (o88_0 p P) (.node (o152_0 p P) (.node (o280_0 p P) .nil .nil) .nil) (.node (o216_0 p P) .nil .nil)) (.node (o120_0 p P) (.node (o184_0 p P) (.node (o312_0 p P) .nil .nil) .nil) (.node (o248_0 p P) .nil .nil))))) (.node (o12_6 p P) (.node (o20_0 p P) (.node (o36_0 p P) (.node (o68_0 p P) (.node (o132_0 p P) (.node (o260_0 p P) .nil .nil) .nil) (.node (o196_0 p P) .nil .nil)) (.node (o100_0 p P) (.node (o164_0 p P) (.node (o292_0 p P) .nil .nil) .nil) (.node (o228_0 p P) .nil .nil))) (.node (o52_0 p P) (.node (o84_0 p P) (.node (o148_0 p P) (.node (o276_0 p P) .nil .nil) .nil) (.node (o212_0 p P) .nil .nil)) (.node (o116_0 p P) (.node (o180_0 p P) (.node (o308_0 p P) .nil .nil) .nil) (.node (o244_0 p P) .nil .nil)))) (.node (o28_0 p P) (.node (o44_0 p P) (.node (o76_0 p P) (.node (o140_0 p P) (.node (o268_0 p P) .nil .nil) .nil) (.node (o204_0 p P) .nil .nil)) (.node (o108_0 p P) (.node (o172_0 p P) (.node (o300_0 p P) .nil .nil) .nil) (.node (o236_0 p P) .nil .nil))) (.node (o60_0 p P) (.node (o92_0 p P) (.node (o156_0 p P) (.node (o284_0 p P) .nil .nil) .nil) (.node (o220_0 p P) .nil .nil)) (.node (o124_0 p P) (.node (o188_0 p P) (.node (o316_0 p P) .nil .nil) .nil) (.node (o252_0 p P) .nil .nil)))))) (.node (PySem.W.boot_o_6 P) (.node (PySem.W.boot_o_10 P) (.node (o18_0 p P) (.node (o34_0 p P) (.node (o66_0 p P) (.node (o130_0 p P) (.node (o258_0 p P) .nil .nil) .nil) (.node (o194_0 p P) .nil .nil)) (.node (o98_0 p P) (.node (o162_0 p P) (.node (o290_0 p P) .nil .nil) .nil) (.node (o226_0 p P) .nil .nil))) (.node (o50_0 p P) (.node (o82_0 p P) (.node (o146_0 p P) (.node (o274_0 p P) .nil .nil) .nil) (.node (o210_0 p P) .nil .nil)) (.node (o114_0 p P) (.node (o178_0 p P) (.node (o306_0 p P) .nil .nil) .nil) (.node (o242_0 p P) .nil .nil)))) (.node (o26_0 p P) (.node (o42_0 p P) (.node (o74_0 p P) (.node (o138_0 p P) (.node (o266_0 p P) .nil .nil) .nil) (.node (o202_0 p P) .nil .nil)) (.node (o106_0 p P) (.node (o170_0 p P) (.node (o298_0 p P) .nil .nil) .nil) (.node (o234_0 p P) .nil .nil))) (.node (o58_0 p P) (.node (o90_0 p P) (.node (o154_0 p P) (.node (o282_0 p P) .nil .nil) .nil) (.node (o218_0 p P) .nil .nil)) (.node (o122_0 p P) (.node (o186_0 p P) (.node (o314_0 p P) .nil .nil) .nil) (.node (o250_0 p P) .nil .nil))))) (.node (o14_0 p P) (.node (o22_0 p P) (.node (o38_0 p P) (.node (o70_0 p P) (.node (o134_0 p P) (.node (o262_0 p P) .nil .nil) .nil) (.node (o198_0 p P) .nil .nil)) (.node (o102_0 p P) (.node (o166_0 p P) (.node (o294_0 p P) .nil .nil) .nil) (.node (o230_0 p P) .nil .nil))) (.node (o54_0 p P) (.node (o86_0 p P) (.node (o150_0 p P) (.node (o278_0 p P) .nil .nil) .nil) (.node (o214_0 p P) .nil .nil)) (.node (o118_0 p P) (.node (o182_0 p P) (.node (o310_0 p P) .nil .nil) .nil) (.node (o246_0 p P) .nil .nil)))) (.node (o30_0 p P) (.node (o46_0 p P) (.node (o78_0 p P) (.node (o142_0 p P) (.node (o270_0 p P) .nil .nil) .nil) (.node (o206_0 p P) .nil .nil)) (.node (o110_0 p P) (.node (o174_0 p P) (.node (o302_0 p P) .nil .nil) .nil) (.node (o238_0 p P) .nil .nil))) (.node (o62_0 p P) (.node (o94_0 p P) (.node (o158_0 p P) (.node (o286_0 p P) .nil .nil) .nil) (.node (o222_0 p P) .nil .nil)) (.node (o126_0 p P) (.node (o190_0 p P) .nil .nil) (.node (o254_0 p P) .nil .nil))))))))
noncomputable def S6 (w : World) (os : OsState) : SharedT := ⟨t6 pw w.params, 318, life, Array.mk [], drawn, 744, os⟩
noncomputable def o3_6 (p : Program) (P : Params) : Obj := { cls := PySem.Value.type "dict", data := PySem.Data.dict #[{ hash := PySem.PyData.keyHash P (PySem.Str.ofString "__name__"), key := PySem.Value.str (PySem.Str.ofString "__name__") 165, val := PySem.Value.str (PySem.Str.ofString "law_dm0062_06") 744 }, { hash := PySem.PyData.keyHash P (PySem.Str.ofString "__doc__"), key := PySem.Value.str (PySem.Str.ofString "__doc__") 166, val := PySem.Value.none }, { hash := PySem.PyData.keyHash P (PySem.Str.ofString "__package__"), key := PySem.Value.str (PySem.Str.ofString "__package__") 167, val := PySem.Value.none }, { hash := PySem.PyData.keyHash P (PySem.Str.ofString "__loader__"), key := PySem.Value.str (PySem.Str.ofString "__loader__") 168, val := PySem.Value.builtin "__main__.__loader__#opaque" }, { hash := PySem.PyData.keyHash P (PySem.Str.ofString "__spec__"), key := PySem.Value.str (PySem.Str.ofString "__spec__") 169, val := PySem.Value.none }, { hash := PySem.PyData.keyHash P (PySem.Str.ofString "__annotations__"), key := PySem.Value.str (PySem.Str.ofString "__annotations__") 170, val := PySem.Value.ref 6 }, { hash := PySem.PyData.keyHash P (PySem.Str.ofString "__builtins__"), key := PySem.Value.str (PySem.Str.ofString "__builtins__") 171, val := PySem.Value.ref 4 }, { hash := PySem.PyData.keyHash P (PySem.Str.ofString "__file__"), key := PySem.Value.str (PySem.Str.ofString "__file__") 173, val := PySem.Value.str (PySem.Str.ofString "/claim/cut.py") 172 }, { hash := PySem.PyData.keyHash P (PySem.Str.ofString "__cached__"), key := PySem.Value.str (PySem.Str.ofString "__cached__") 174, val := PySem.Value.none }, { hash := PySem.PyData.keyHash P (PySem.Str.ofString "_wall"), key := PySem.Value.str (PySem.Str.ofString "_wall") 193, val := PySem.Value.ref 21 }, { hash := PySem.PyData.keyHash P (PySem.Str.ofString "_tuplegetter"), key := PySem.Value.str (PySem.Str.ofString "_tuplegetter") 252, val := PySem.Value.ref 60 }, { hash := PySem.PyData.keyHash P (PySem.Str.ofString "Match"), key := PySem.Value.str (PySem.Str.ofString "Match") 380, val := PySem.Value.ref 135 }, { hash := PySem.PyData.keyHash P (PySem.Str.ofString "_calculate_ratio"), key := PySem.Value.str (PySem.Str.ofString "_calculate_ratio") 388, val := PySem.Value.ref 145 }, { hash := PySem.PyData.keyHash P (PySem.Str.ofString "SequenceMatcher"), key := PySem.Value.str (PySem.Str.ofString "SequenceMatcher") 592, val := PySem.Value.ref 242 }, { hash := PySem.PyData.keyHash P (PySem.Str.ofString "_keep_original_ws"), key := PySem.Value.str (PySem.Str.ofString "_keep_original_ws") 601, val := PySem.Value.ref 253 }, { hash := PySem.PyData.keyHash P (PySem.Str.ofString "Differ"), key := PySem.Value.str (PySem.Str.ofString "Differ") 743, val := PySem.Value.ref 313 }, { hash := PySem.PyData.keyHash P (PySem.Str.ofString "_law_hint"), key := PySem.Value.str (PySem.Str.ofString "_law_hint") 756, val := PySem.Value.ref 324 }, { hash := PySem.PyData.keyHash P (PySem.Str.ofString "_law_due"), key := PySem.Value.str (PySem.Str.ofString "_law_due") 762, val := PySem.Value.ref 329 }, { hash := PySem.PyData.keyHash P (PySem.Str.ofString "law"), key := PySem.Value.str (PySem.Str.ofString "law") 780, val := PySem.Value.ref 336 }] 19 }
noncomputable def o12_7 (p : Program) (P : Params) : Obj := { cls := PySem.Value.none, data := PySem.Data.fields #[PySem.Value.int 1 0, PySem.Value.int 0 0, PySem.Value.ref 20, PySem.Value.int 5 0, PySem.Value.int 0 0, PySem.Value.ref 27, PySem.Value.int 23 0, PySem.Value.int 0 0, PySem.Value.ref 71, PySem.Value.int 66 0, PySem.Value.int 0 0, PySem.Value.ref 144, PySem.Value.int 70 0, PySem.Value.int 0 0, PySem.Value.ref 151, PySem.Value.int 488 0, PySem.Value.int 0 0, PySem.Value.ref 252, PySem.Value.int 491 0, PySem.Value.int 0 0, PySem.Value.ref 259, PySem.Value.int 754 0, PySem.Value.int 0 0, PySem.Value.ref 323, PySem.Value.int 761 0, PySem.Value.int 0 0, PySem.Value.ref 328, PySem.Value.int 774 0, PySem.Value.int 0 0, PySem.Value.ref 335] }
noncomputable def o318_0 (p : Program) (P : Params) : Obj := { cls := PySem.Value.type "tuple", data := PySem.Data.seq #[] }
noncomputable def o319_0 (p : Program) (P : Params) : Obj := { cls := PySem.Value.none, data := PySem.Data.fields #[] }
noncomputable def o320_0 (p : Program) (P : Params) : Obj := { cls := PySem.Value.type "tuple", data := PySem.Data.seq #[PySem.Value.str (PySem.Str.ofString "line") 749, PySem.Value.str (PySem.Str.ofString "tags") 750, PySem.Value.str (PySem.Str.ofString "kind") 751, PySem.Value.str (PySem.Str.ofString "laid") 752, PySem.Value.str (PySem.Str.ofString "k") 753] }
noncomputable def o321_0 (p : Program) (P : Params) : Obj := { cls := PySem.Value.type "tuple", data := PySem.Data.seq #[] }
noncomputable def o322_0 (p : Program) (P : Params) : Obj := { cls := PySem.Value.none, data := PySem.Data.func { name := PySem.Str.ofString "_law_hint", qualname := PySem.Str.ofString "_law_hint", params := fa_9 p, body := PySem.FuncBody.stmts (fb_9 p), scope := fs_9 p, globals := 0, closure := [], defaults := PySem.Value.none, kwdefaults := PySem.Value.none } }
noncomputable def o323_0 (p : Program) (P : Params) : Obj := { cls := PySem.Value.type "code", data := PySem.Data.fields #[PySem.Value.str (PySem.Str.ofString "_law_hint") 746, PySem.Value.str (PySem.Str.ofString "_law_hint") 747, PySem.Value.str (PySem.Str.ofString "/claim/cut.py") 748, PySem.Value.int 754 0, PySem.Value.int 3 0, PySem.Value.int 0 0, PySem.Value.int 0 0, PySem.Value.int 3 0, PySem.Value.ref 318, PySem.Value.bool Bool.true, PySem.Value.int 181 0, PySem.Value.ref 319, PySem.Value.none, PySem.Value.ref 320, PySem.Value.ref 321, PySem.Value.ref 322, PySem.Value.int 754 0, PySem.Value.int 754 0, PySem.Value.str (PySem.Str.ofString "/claim/cut.py") 755] }
noncomputable def o324_0 (p : Program) (P : Params) : Obj := { cls := PySem.Value.type "function", data := PySem.Data.func { name := PySem.Str.ofString "_law_hint", qualname := PySem.Str.ofString "_law_hint", params := fa_9 p, body := PySem.FuncBody.stmts (fb_9 p), scope := fs_9 p, globals := 3, closure := [], defaults := PySem.Value.none, kwdefaults := PySem.Value.none, pyModule := PySem.Value.str (PySem.Str.ofString "law_dm0062_06") 744, code := PySem.Value.ref 323 } }
noncomputable def o325_0 (p : Program) (P : Params) : Obj := { cls := PySem.Value.type "tuple", data := PySem.Data.seq #[] }
noncomputable def o326_0 (p : Program) (P : Params) : Obj := { cls := PySem.Value.none, data := PySem.Data.fields #[] }
noncomputable def o327_0 (p : Program) (P : Params) : Obj := { cls := PySem.Value.none, data := PySem.Data.func { name := PySem.Str.ofString "_law_due", qualname := PySem.Str.ofString "_law_due", params := fa_10 p, body := PySem.FuncBody.stmts (fb_10 p), scope := fs_10 p, globals := 0, closure := [], defaults := PySem.Value.none, kwdefaults := PySem.Value.none } }
noncomputable def o328_0 (p : Program) (P : Params) : Obj := { cls := PySem.Value.type "code", data := PySem.Data.fields #[PySem.Value.str (PySem.Str.ofString "_law_due") 757, PySem.Value.str (PySem.Str.ofString "_law_due") 758, PySem.Value.str (PySem.Str.ofString "/claim/cut.py") 759, PySem.Value.int 761 0, PySem.Value.int 3 0, PySem.Value.int 0 0, PySem.Value.int 0 0, PySem.Value.int 3 0, PySem.Value.ref 325, PySem.Value.bool Bool.true, PySem.Value.int 181 0, PySem.Value.ref 326, PySem.Value.none, PySem.Value.none, PySem.Value.none, PySem.Value.ref 327, PySem.Value.int 760 0, PySem.Value.int 761 0, PySem.Value.str (PySem.Str.ofString "/claim/cut.py") 761] }
noncomputable def o329_0 (p : Program) (P : Params) : Obj := { cls := PySem.Value.type "function", data := PySem.Data.func { name := PySem.Str.ofString "_law_due", qualname := PySem.Str.ofString "_law_due", params := fa_10 p, body := PySem.FuncBody.stmts (fb_10 p), scope := fs_10 p, globals := 3, closure := [], defaults := PySem.Value.none, kwdefaults := PySem.Value.none, pyModule := PySem.Value.str (PySem.Str.ofString "law_dm0062_06") 744, code := PySem.Value.ref 328 } }
noncomputable def o330_0 (p : Program) (P : Params) : Obj := { cls := PySem.Value.type "tuple", data := PySem.Data.seq #[] }
noncomputable def o331_0 (p : Program) (P : Params) : Obj := { cls := PySem.Value.none, data := PySem.Data.fields #[] }
noncomputable def o332_0 (p : Program) (P : Params) : Obj := { cls := PySem.Value.type "tuple", data := PySem.Data.seq #[PySem.Value.str (PySem.Str.ofString "script") 766, PySem.Value.str (PySem.Str.ofString "lines") 767, PySem.Value.str (PySem.Str.ofString "tags") 768, PySem.Value.str (PySem.Str.ofString "x") 769, PySem.Value.str (PySem.Str.ofString "side") 770, PySem.Value.str (PySem.Str.ofString "kind") 771, PySem.Value.str (PySem.Str.ofString "one") 772, PySem.Value.str (PySem.Str.ofString "two") 773, PySem.Value.str (PySem.Str.ofString "old") 774, PySem.Value.str (PySem.Str.ofString "new") 775, PySem.Value.str (PySem.Str.ofString "told") 776, PySem.Value.str (PySem.Str.ofString "row") 777] }
noncomputable def o333_0 (p : Program) (P : Params) : Obj := { cls := PySem.Value.type "tuple", data := PySem.Data.seq #[] }
noncomputable def o334_0 (p : Program) (P : Params) : Obj := { cls := PySem.Value.none, data := PySem.Data.func { name := PySem.Str.ofString "law", qualname := PySem.Str.ofString "law", params := fa_11 p, body := PySem.FuncBody.stmts (fb_11 p), scope := fs_11 p, globals := 0, closure := [], defaults := PySem.Value.none, kwdefaults := PySem.Value.none } }
noncomputable def o335_0 (p : Program) (P : Params) : Obj := { cls := PySem.Value.type "code", data := PySem.Data.fields #[PySem.Value.str (PySem.Str.ofString "law") 763, PySem.Value.str (PySem.Str.ofString "law") 764, PySem.Value.str (PySem.Str.ofString "/claim/cut.py") 765, PySem.Value.int 774 0, PySem.Value.int 1 0, PySem.Value.int 0 0, PySem.Value.int 0 0, PySem.Value.int 3 0, PySem.Value.ref 330, PySem.Value.bool Bool.true, PySem.Value.int 181 0, PySem.Value.ref 331, PySem.Value.none, PySem.Value.ref 332, PySem.Value.ref 333, PySem.Value.ref 334, PySem.Value.int 778 0, PySem.Value.int 774 0, PySem.Value.str (PySem.Str.ofString "/claim/cut.py") 779] }
noncomputable def o336_0 (p : Program) (P : Params) : Obj := { cls := PySem.Value.type "function", data := PySem.Data.func { name := PySem.Str.ofString "law", qualname := PySem.Str.ofString "law", params := fa_11 p, body := PySem.FuncBody.stmts (fb_11 p), scope := fs_11 p, globals := 3, closure := [], defaults := PySem.Value.none, kwdefaults := PySem.Value.none, pyModule := PySem.Value.str (PySem.Str.ofString "law_dm0062_06") 744, code := PySem.Value.ref 335 } }
noncomputable def t7 (p : Program) (P : Params) : BT := (.node (PySem.W.boot_o_0 P) (.node (PySem.W.boot_o_1 P) (.node (o3_6 p P) (.node (PySem.W.boot_o_7 P) (.node (o15_0 p P) (.node (o31_0 p P) (.node (o63_0 p P) (.node (o127_0 p P) (.node (o255_0 p P) .nil .nil) .nil) (.node (o191_0 p P) (.node (o319_0 p P) .nil .nil) .nil)) (.node (o95_0 p P) (.node (o159_0 p P) (.node (o287_0 p P) .nil .nil) .nil) (.node (o223_0 p P) .nil .nil))) (.node (o47_0 p P) (.node (o79_0 p P) (.node (o143_0 p P) (.node (o271_0 p P) .nil .nil) .nil) (.node (o207_0 p P) (.node (o335_0 p P) .nil .nil) .nil)) (.node (o111_0 p P) (.node (o175_0 p P) (.node (o303_0 p P) .nil .nil) .nil) (.node (o239_0 p P) .nil .nil)))) (.node (o23_0 p P) (.node (o39_0 p P) (.node (o71_0 p P) (.node (o135_0 p P) (.node (o263_0 p P) .nil .nil) .nil) (.node (o199_0 p P) (.node (o327_0 p P) .nil .nil) .nil)) (.node (o103_0 p P) (.node (o167_0 p P) (.node (o295_0 p P) .nil .nil) .nil) (.node (o231_0 p P) .nil .nil))) (.node (o55_0 p P) (.node (o87_0 p P) (.node (o151_0 p P) (.node (o279_0 p P) .nil .nil) .nil) (.node (o215_0 p P) .nil .nil)) (.node (o119_0 p P) (.node (o183_0 p P) (.node (o311_0 p P) .nil .nil) .nil) (.node (o247_0 p P) .nil .nil))))) (.node (o11_0 p P) (.node (o19_0 p P) (.node (o35_0 p P) (.node (o67_0 p P) (.node (o131_0 p P) (.node (o259_0 p P) .nil .nil) .nil) (.node (o195_0 p P) (.node (o323_0 p P) .nil .nil) .nil)) (.node (o99_0 p P) (.node (o163_0 p P) (.node (o291_0 p P) .nil .nil) .nil) (.node (o227_0 p P) .nil .nil))) (.node (o51_0 p P) (.node (o83_0 p P) (.node (o147_0 p P) (.node (o275_0 p P) .nil .nil) .nil) (.node (o211_0 p P) .nil .nil)) (.node (o115_0 p P) (.node (o179_0 p P) (.node (o307_0 p P) .nil .nil) .nil) (.node (o243_0 p P) .nil .nil)))) (.node (o27_0 p P) (.node (o43_0 p P) (.node (o75_0 p P) (.node (o139_0 p P) (.node (o267_0 p P) .nil .nil) .nil) (.node (o203_0 p P) (.node (o331_0 p P) .nil .nil) .nil)) (.node (o107_0 p P) (.node (o171_0 p P) (.node (o299_0 p P) .nil .nil) .nil) (.node (o235_0 p P) .nil .nil))) (.node (o59_0 p P) (.node (o91_0 p P) (.node (o155_0 p P) (.node (o283_0 p P) .nil .nil) .nil) (.node (o219_0 p P) .nil .nil)) (.node (o123_0 p P) (.node (o187_0 p P) (.node (o315_0 p P) .nil .nil) .nil) (.node (o251_0 p P) .nil .nil)))))) (.node (PySem.W.boot_o_5 P) (.node (PySem.W.boot_o_9 P) (.node (o17_0 p P) (.node (o33_0 p P) (.node (o65_0 p P) (.node (o129_0 p P) (.node (o257_0 p P) .nil .nil) .nil) (.node (o193_0 p P) (.node (o321_0 p P) .nil .nil) .nil)) (.node (o97_0 p P) (.node (o161_0 p P) (.node (o289_0 p P) .nil .nil) .nil) (.node (o225_0 p P) .nil .nil))) (.node (o49_0 p P) (.node (o81_0 p P) (.node (o145_0 p P) (.node (o273_0 p P) .nil .nil) .nil) (.node (o209_0 p P) .nil .nil)) (.node (o113_0 p P) (.node (o177_0 p P) (.node (o305_0 p P) .nil .nil) .nil) (.node (o241_0 p P) .nil .nil)))) (.node (o25_0 p P) (.node (o41_0 p P) (.node (o73_0 p P) (.node (o137_0 p P) (.node (o265_0 p P) .nil .nil) .nil) (.node (o201_0 p P) (.node (o329_0 p P) .nil .nil) .nil)) (.node (o105_0 p P) (.node (o169_0 p P) (.node (o297_0 p P) .nil .nil) .nil) (.node (o233_0 p P) .nil .nil))) (.node (o57_0 p P) (.node (o89_0 p P) (.node (o153_0 p P) (.node (o281_0 p P) .nil .nil) .nil) (.node (o217_0 p P) .nil .nil)) (.node (o121_0 p P) (.node (o185_0 p P) (.node (o313_0 p P) .nil .nil) .nil) (.node (o249_0 p P) .nil .nil))))) (.node (o13_0 p P) (.node (o21_0 p P) (.node (o37_0 p P) (.node (o69_0 p P) (.node (o133_0 p P) (.node (o261_0 p P) .nil .nil) .nil) (.node (o197_0 p P) (.node (o325_0 p P) .nil .nil) .nil)) (.node (o101_0 p P) (.node (o165_0 p P) (.node (o293_0 p P) .nil .nil) .nil) (.node (o229_0 p P) .nil .nil))) (.node (o53_0 p P) (.node (o85_0 p P) (.node (o149_0 p P) (.node (o277_0 p P) .nil .nil) .nil) (.node (o213_0 p P) .nil .nil)) (.node (o117_0 p P) (.node (o181_0 p P) (.node (o309_0 p P) .nil .nil) .nil) (.node (o245_0 p P) .nil .nil)))) (.node (o29_0 p P) (.node (o45_0 p P) (.node (o77_0 p P) (.node (o141_0 p P) (.node (o269_0 p P) .nil .nil) .nil) (.node (o205_0 p P) (.node (o333_0 p P) .nil .nil) .nil)) (.node (o109_0 p P) (.node (o173_0 p P) (.node (o301_0 p P) .nil .nil) .nil) (.node (o237_0 p P) .nil .nil))) (.node (o61_0 p P) (.node (o93_0 p P) (.node (o157_0 p P) (.node (o285_0 p P) .nil .nil) .nil) (.node (o221_0 p P) .nil .nil)) (.node (o125_0 p P) (.node (o189_0 p P) (.node (o317_0 p P) .nil .nil) .nil) (.node (o253_0 p P) .nil .nil))))))) (.node (PySem.W.boot_o_2 P) (.node (PySem.W.boot_o_4 P) (.node (PySem.W.boot_o_8 P) (.node (o16_0 p P) (.node (o32_0 p P) (.node (o64_0 p P) (.node (o128_0 p P) (.node (o256_0 p P) .nil .nil) .nil) (.node (o192_0 p P) (.node (o320_0 p P) .nil .nil) .nil)) (.node (o96_0 p P) (.node (o160_0 p P) (.node (o288_0 p P) .nil .nil) .nil) (.node (o224_0 p P) .nil .nil))) (.node (o48_0 p P) (.node (o80_0 p P) (.node (o144_0 p P) (.node (o272_0 p P) .nil .nil) .nil) (.node (o208_0 p P) (.node (o336_0 p P) .nil .nil) .nil)) (.node (o112_0 p P) (.node (o176_0 p P) (.node (o304_0 p P) .nil .nil) .nil) (.node (o240_0 p P) .nil .nil)))) (.node (o24_0 p P) (.node (o40_0 p P) (.node (o72_0 p P) (.node (o136_0 p P) (.node (o264_0 p P) .nil .nil) .nil) (.node (o200_0 p P) (.node (o328_0 p P) .nil .nil) .nil)) (.node (o104_0 p P) (.node (o168_0 p P) (.node (o296_0 p P) .nil .nil) .nil) (.node (o232_0 p P) .nil .nil))) (.node (o56_0 p P) (.node (o88_0 p P) (.node (o152_0 p P) (.node (o280_0 p P) .nil .nil) .nil) (.node (o216_0 p P) .nil .nil)) (.node (o120_0 p P) (.node (o184_0 p P) (.node (o312_0 p P) .nil .nil) .nil) (.node (o248_0 p P) .nil .nil))))) (.node (o12_7 p P) (.node (o20_0 p P) (.node (o36_0 p P) (.node (o68_0 p P) (.node (o132_0 p P) (.node (o260_0 p P) .nil .nil) .nil) (.node (o196_0 p P) (.node (o324_0 p P) .nil .nil) .nil)) (.node (o100_0 p P) (.node (o164_0 p P) (.node (o292_0 p P) .nil .nil) .nil) (.node (o228_0 p P) .nil .nil))) (.node (o52_0 p P) (.node (o84_0 p P) (.node (o148_0 p P) (.node (o276_0 p P) .nil .nil) .nil) (.node (o212_0 p P) .nil .nil)) (.node (o116_0 p P) (.node (o180_0 p P) (.node (o308_0 p P) .nil .nil) .nil) (.node (o244_0 p P) .nil .nil)))) (.node (o28_0 p P) (.node (o44_0 p P) (.node (o76_0 p P) (.node (o140_0 p P) (.node (o268_0 p P) .nil .nil) .nil) (.node (o204_0 p P) (.node (o332_0 p P) .nil .nil) .nil)) (.node (o108_0 p P) (.node (o172_0 p P) (.node (o300_0 p P) .nil .nil) .nil) (.node (o236_0 p P) .nil .nil))) (.node (o60_0 p P) (.node (o92_0 p P) (.node (o156_0 p P) (.node (o284_0 p P) .nil .nil) .nil) (.node (o220_0 p P) .nil .nil)) (.node (o124_0 p P) (.node (o188_0 p P) (.node (o316_0 p P) .nil .nil) .nil) (.node (o252_0 p P) .nil .nil)))))) (.node (PySem.W.boot_o_6 P) (.node (PySem.W.boot_o_10 P) (.node (o18_0 p P) (.node (o34_0 p P) (.node (o66_0 p P) (.node (o130_0 p P) (.node (o258_0 p P) .nil .nil) .nil) (.node (o194_0 p P) (.node (o322_0 p P) .nil .nil) .nil)) (.node (o98_0 p P) (.node (o162_0 p P) (.node (o290_0 p P) .nil .nil) .nil) (.node (o226_0 p P) .nil .nil))) (.node (o50_0 p P) (.node (o82_0 p P) (.node (o146_0 p P) (.node (o274_0 p P) .nil .nil) .nil) (.node (o210_0 p P) .nil .nil)) (.node (o114_0 p P) (.node (o178_0 p P) (.node (o306_0 p P) .nil .nil) .nil) (.node (o242_0 p P) .nil .nil)))) (.node (o26_0 p P) (.node (o42_0 p P) (.node (o74_0 p P) (.node (o138_0 p P) (.node (o266_0 p P) .nil .nil) .nil) (.node (o202_0 p P) (.node (o330_0 p P) .nil .nil) .nil)) (.node (o106_0 p P) (.node (o170_0 p P) (.node (o298_0 p P) .nil .nil) .nil) (.node (o234_0 p P) .nil .nil))) (.node (o58_0 p P) (.node (o90_0 p P) (.node (o154_0 p P) (.node (o282_0 p P) .nil .nil) .nil) (.node (o218_0 p P) .nil .nil)) (.node (o122_0 p P) (.node (o186_0 p P) (.node (o314_0 p P) .nil .nil) .nil) (.node (o250_0 p P) .nil .nil))))) (.node (o14_0 p P) (.node (o22_0 p P) (.node (o38_0 p P) (.node (o70_0 p P) (.node (o134_0 p P) (.node (o262_0 p P) .nil .nil) .nil) (.node (o198_0 p P) (.node (o326_0 p P) .nil .nil) .nil)) (.node (o102_0 p P) (.node (o166_0 p P) (.node (o294_0 p P) .nil .nil) .nil) (.node (o230_0 p P) .nil .nil))) (.node (o54_0 p P) (.node (o86_0 p P) (.node (o150_0 p P) (.node (o278_0 p P) .nil .nil) .nil) (.node (o214_0 p P) .nil .nil)) (.node (o118_0 p P) (.node (o182_0 p P) (.node (o310_0 p P) .nil .nil) .nil) (.node (o246_0 p P) .nil .nil)))) (.node (o30_0 p P) (.node (o46_0 p P) (.node (o78_0 p P) (.node (o142_0 p P) (.node (o270_0 p P) .nil .nil) .nil) (.node (o206_0 p P) (.node (o334_0 p P) .nil .nil) .nil)) (.node (o110_0 p P) (.node (o174_0 p P) (.node (o302_0 p P) .nil .nil) .nil) (.node (o238_0 p P) .nil .nil))) (.node (o62_0 p P) (.node (o94_0 p P) (.node (o158_0 p P) (.node (o286_0 p P) .nil .nil) .nil) (.node (o222_0 p P) .nil .nil)) (.node (o126_0 p P) (.node (o190_0 p P) (.node (o318_0 p P) .nil .nil) .nil) (.node (o254_0 p P) .nil .nil))))))))
noncomputable def S7 (w : World) (os : OsState) : SharedT := ⟨t7 pw w.params, 337, life, Array.mk [], drawn, 781, os⟩
noncomputable def Hf (p : Program) (P : Params) : Heap := Heap.mk (Array.mk [PySem.W.boot_o_0 P, PySem.W.boot_o_1 P, PySem.W.boot_o_2 P, o3_6 p P, PySem.W.boot_o_4 P, PySem.W.boot_o_5 P, PySem.W.boot_o_6 P, PySem.W.boot_o_7 P, PySem.W.boot_o_8 P, PySem.W.boot_o_9 P, PySem.W.boot_o_10 P, o11_0 p P, o12_7 p P, o13_0 p P, o14_0 p P, o15_0 p P, o16_0 p P, o17_0 p P, o18_0 p P, o19_0 p P, o20_0 p P, o21_0 p P, o22_0 p P, o23_0 p P, o24_0 p P, o25_0 p P, o26_0 p P, o27_0 p P, o28_0 p P, o29_0 p P, o30_0 p P, o31_0 p P, o32_0 p P, o33_0 p P, o34_0 p P, o35_0 p P, o36_0 p P, o37_0 p P, o38_0 p P, o39_0 p P, o40_0 p P, o41_0 p P, o42_0 p P, o43_0 p P, o44_0 p P, o45_0 p P, o46_0 p P, o47_0 p P, o48_0 p P, o49_0 p P, o50_0 p P, o51_0 p P, o52_0 p P, o53_0 p P, o54_0 p P, o55_0 p P, o56_0 p P, o57_0 p P, o58_0 p P, o59_0 p P, o60_0 p P, o61_0 p P, o62_0 p P, o63_0 p P, o64_0 p P, o65_0 p P, o66_0 p P, o67_0 p P, o68_0 p P, o69_0 p P, o70_0 p P, o71_0 p P, o72_0 p P, o73_0 p P, o74_0 p P, o75_0 p P, o76_0 p P, o77_0 p P, o78_0 p P, o79_0 p P, o80_0 p P, o81_0 p P, o82_0 p P, o83_0 p P, o84_0 p P, o85_0 p P, o86_0 p P, o87_0 p P, o88_0 p P, o89_0 p P, o90_0 p P, o91_0 p P, o92_0 p P, o93_0 p P, o94_0 p P, o95_0 p P, o96_0 p P, o97_0 p P, o98_0 p P, o99_0 p P, o100_0 p P, o101_0 p P, o102_0 p P, o103_0 p P, o104_0 p P, o105_0 p P, o106_0 p P, o107_0 p P, o108_0 p P, o109_0 p P, o110_0 p P, o111_0 p P, o112_0 p P, o113_0 p P, o114_0 p P, o115_0 p P, o116_0 p P, o117_0 p P, o118_0 p P, o119_0 p P, o120_0 p P, o121_0 p P, o122_0 p P, o123_0 p P, o124_0 p P, o125_0 p P, o126_0 p P, o127_0 p P, o128_0 p P, o129_0 p P, o130_0 p P, o131_0 p P, o132_0 p P, o133_0 p P, o134_0 p P, o135_0 p P, o136_0 p P, o137_0 p P, o138_0 p P, o139_0 p P, o140_0 p P, o141_0 p P, o142_0 p P, o143_0 p P, o144_0 p P, o145_0 p P, o146_0 p P, o147_0 p P, o148_0 p P, o149_0 p P, o150_0 p P, o151_0 p P, o152_0 p P, o153_0 p P, o154_0 p P, o155_0 p P, o156_0 p P, o157_0 p P, o158_0 p P, o159_0 p P, o160_0 p P, o161_0 p P, o162_0 p P, o163_0 p P, o164_0 p P, o165_0 p P, o166_0 p P, o167_0 p P, o168_0 p P, o169_0 p P, o170_0 p P, o171_0 p P, o172_0 p P, o173_0 p P, o174_0 p P, o175_0 p P, o176_0 p P, o177_0 p P, o178_0 p P, o179_0 p P, o180_0 p P, o181_0 p P, o182_0 p P, o183_0 p P, o184_0 p P, o185_0 p P, o186_0 p P, o187_0 p P, o188_0 p P, o189_0 p P, o190_0 p P, o191_0 p P, o192_0 p P, o193_0 p P, o194_0 p P, o195_0 p P, o196_0 p P, o197_0 p P, o198_0 p P, o199_0 p P, o200_0 p P, o201_0 p P, o202_0 p P, o203_0 p P, o204_0 p P, o205_0 p P, o206_0 p P, o207_0 p P, o208_0 p P, o209_0 p P, o210_0 p P, o211_0 p P, o212_0 p P, o213_0 p P, o214_0 p P, o215_0 p P, o216_0 p P, o217_0 p P, o218_0 p P, o219_0 p P, o220_0 p P, o221_0 p P, o222_0 p P, o223_0 p P, o224_0 p P, o225_0 p P, o226_0 p P, o227_0 p P, o228_0 p P, o229_0 p P, o230_0 p P, o231_0 p P, o232_0 p P, o233_0 p P, o234_0 p P, o235_0 p P, o236_0 p P, o237_0 p P, o238_0 p P, o239_0 p P, o240_0 p P, o241_0 p P, o242_0 p P, o243_0 p P, o244_0 p P, o245_0 p P, o246_0 p P, o247_0 p P, o248_0 p P, o249_0 p P, o250_0 p P, o251_0 p P, o252_0 p P, o253_0 p P, o254_0 p P, o255_0 p P, o256_0 p P, o257_0 p P, o258_0 p P, o259_0 p P, o260_0 p P, o261_0 p P, o262_0 p P, o263_0 p P, o264_0 p P, o265_0 p P, o266_0 p P, o267_0 p P, o268_0 p P, o269_0 p P, o270_0 p P, o271_0 p P, o272_0 p P, o273_0 p P, o274_0 p P, o275_0 p P, o276_0 p P, o277_0 p P, o278_0 p P, o279_0 p P, o280_0 p P, o281_0 p P, o282_0 p P, o283_0 p P, o284_0 p P, o285_0 p P, o286_0 p P, o287_0 p P, o288_0 p P, o289_0 p P, o290_0 p P, o291_0 p P, o292_0 p P, o293_0 p P, o294_0 p P, o295_0 p P, o296_0 p P, o297_0 p P, o298_0 p P, o299_0 p P, o300_0 p P, o301_0 p P, o302_0 p P, o303_0 p P, o304_0 p P, o305_0 p P, o306_0 p P, o307_0 p P, o308_0 p P, o309_0 p P, o310_0 p P, o311_0 p P, o312_0 p P, o313_0 p P, o314_0 p P, o315_0 p P, o316_0 p P, o317_0 p P, o318_0 p P, o319_0 p P, o320_0 p P, o321_0 p P, o322_0 p P, o323_0 p P, o324_0 p P, o325_0 p P, o326_0 p P, o327_0 p P, o328_0 p P, o329_0 p P, o330_0 p P, o331_0 p P, o332_0 p P, o333_0 p P, o334_0 p P, o335_0 p P, o336_0 p P]) life
noncomputable def Sf (w : World) (os : OsState) : Shared := ⟨Hf pw w.params, Array.mk [], drawn, 781, os⟩
noncomputable def ann : Option Value := Option.some (PySem.Value.ref 6)
noncomputable def env : Env := { scope := pw.main.scope, locals := mainNs, globals := mainNs, cells := [], code := PySem.Value.ref 13, frame := some 14 }
noncomputable def bE : List Stmt := behindTheImports pw
noncomputable def cE : Code := .body bE env
noncomputable def B : List Frame := [topFrame ⟨0, 0, 0, 0⟩]
theorem pre (w : World) (os : OsState) : topGo treeTable pw w 11 ann 12 ⟨boot_heap w.params, Array.mk [], boot_drawn, boot_toks, os⟩ (topStub pw) = some (Sa w os, Thread.mk (denote treeTable cE) cE ⟨0, 0, 0, 0⟩ B) := by
  kernel_rfl
theorem block (w : World) (os : OsState) : segRun treeTable pw w 11 ann 1 1 (Sa w os) (blockOf bE env cE ⟨0, 0, 0, 0⟩ B) = some (.next, (Sb w os).abs, cE, ⟨0, 0, 0, 0⟩) := by
  kernel_rfl
noncomputable def sts1 : List Stmt := (bE.drop 0).take 3
theorem p1 (w : World) (os : OsState) : segRunT treeTable pw w 11 ann 1 362 (Sb w os) (piecesOf sts1 env cE ⟨0, 0, 0, 0⟩ B) = some (.next, S1 w os, cE, ⟨5, 0, 22, 54⟩) := by
  rw [PySem.W.Fast.te10110043849684766642, tbQ_eq]
  kernel_rfl
noncomputable def sts2 : List Stmt := (bE.drop 3).take 1
theorem p2 (w : World) (os : OsState) : segRunT treeTable pw w 11 ann 1 1047 (S1 w os) (piecesOf sts2 env cE ⟨5, 0, 22, 54⟩ B) = some (.next, S2 w os, cE, ⟨23, 0, 65, 54⟩) := by
  rw [PySem.W.Fast.te10110043849684766642, tbQ_eq]
  kernel_rfl
noncomputable def sts3 : List Stmt := (bE.drop 4).take 1
theorem p3 (w : World) (os : OsState) : segRunT treeTable pw w 11 ann 1 31 (S2 w os) (piecesOf sts3 env cE ⟨23, 0, 65, 54⟩ B) = some (.next, S3 w os, cE, ⟨66, 0, 69, 14⟩) := by
  rw [PySem.W.Fast.te10110043849684766642, tbQ_eq]
  kernel_rfl
noncomputable def sts4 : List Stmt := (bE.drop 5).take 1
theorem p4 (w : World) (os : OsState) : segRunT treeTable pw w 11 ann 1 667 (S3 w os) (piecesOf sts4 env cE ⟨66, 0, 69, 14⟩ B) = some (.next, S4 w os, cE, ⟨70, 0, 487, 53⟩) := by
  rw [PySem.W.Fast.te10110043849684766642, tbQ_eq]
  kernel_rfl
noncomputable def sts5 : List Stmt := (bE.drop 6).take 1
theorem p5 (w : World) (os : OsState) : segRunT treeTable pw w 11 ann 1 32 (S4 w os) (piecesOf sts5 env cE ⟨70, 0, 487, 53⟩ B) = some (.next, S5 w os, cE, ⟨488, 0, 490, 96⟩) := by
  rw [PySem.W.Fast.te10110043849684766642, tbQ_eq]
  kernel_rfl
noncomputable def sts6 : List Stmt := (bE.drop 7).take 1
theorem p6 (w : World) (os : OsState) : segRunT treeTable pw w 11 ann 1 483 (S5 w os) (piecesOf sts6 env cE ⟨488, 0, 490, 96⟩ B) = some (.next, S6 w os, cE, ⟨491, 0, 752, 32⟩) := by
  rw [PySem.W.Fast.te10110043849684766642, tbQ_eq]
  kernel_rfl
noncomputable def sts7 : List Stmt := (bE.drop 8).take 4
theorem p7 (w : World) (os : OsState) : segRunT treeTable pw w 11 ann 1 109 (S6 w os) (piecesOf sts7 env cE ⟨491, 0, 752, 32⟩ B) = some (.next, S7 w os, cE, ⟨774, 0, 800, 15⟩) := by
  rw [PySem.W.Fast.te10110043849684766642, tbQ_eq]
  kernel_rfl
theorem fin (w : World) (os : OsState) : topRun treeTable pw w 11 ann 2 (S7 w os).abs (Thread.mk (doneF .next) cE ⟨774, 0, 800, 15⟩ B) = some (Sf w os) := by
  kernel_rfl
theorem bE_eq : bE = sts1 ++ (sts2 ++ (sts3 ++ (sts4 ++ (sts5 ++ (sts6 ++ (sts7 ++ [])))))) := by kernel_rfl
theorem run (w : World) (os : OsState) : topRun treeTable pw w 11 ann 2746 ⟨boot_heap w.params, Array.mk [], boot_drawn, boot_toks, os⟩ (topStub pw) = some (Sf w os) := by
  exact go_top (pre w os) (piece_block (block w os) (by rw [bE_eq]; exact (piece_app (segRun_of (p1 w os)) (piece_app (segRun_of (p2 w os)) (piece_app (segRun_of (p3 w os)) (piece_app (segRun_of (p4 w os)) (piece_app (segRun_of (p5 w os)) (piece_app (segRun_of (p6 w os)) (piece_app (segRun_of (p7 w os)) (piece_nil (fin w os)))))))))))
noncomputable def as : List Addr := [2, 3, 15, 17, 18, 20, 21, 29, 31, 32, 34, 35, 36, 37, 39, 40, 42, 43, 44, 46, 47, 49, 50, 51, 53, 54, 56, 57, 58, 59, 60, 61, 62, 65, 68, 73, 74, 75, 76, 78, 79, 81, 82, 83, 85, 86, 88, 89, 90, 91, 92, 93, 94, 96, 97, 99, 100, 101, 103, 104, 106, 107, 108, 110, 111, 113, 114, 115, 117, 118, 120, 121, 122, 123, 124, 126, 127, 129, 130, 132, 134, 135, 136, 139, 141, 142, 144, 145, 153, 154, 156, 157, 159, 160, 161, 163, 164, 166, 167, 168, 170, 171, 173, 174, 175, 177, 178, 180, 181, 182, 184, 185, 187, 188, 189, 190, 192, 193, 195, 196, 197, 199, 200, 202, 203, 204, 206, 207, 209, 210, 211, 212, 214, 215, 217, 218, 219, 221, 222, 224, 225, 226, 228, 229, 231, 232, 233, 235, 236, 238, 239, 240, 241, 242, 243, 244, 247, 249, 250, 252, 253, 261, 262, 264, 265, 267, 268, 269, 271, 272, 274, 275, 276, 278, 279, 281, 282, 283, 285, 286, 288, 289, 290, 292, 293, 295, 296, 297, 299, 300, 302, 303, 304, 306, 307, 309, 310, 311, 312, 313, 314, 315, 318, 320, 321, 323, 324, 325, 328, 329, 330, 332, 333, 335, 336]
noncomputable def KK (p : Program) (P : Params) : Frag := (nat_lit 2, PySem.W.boot_o_2 P) :: (nat_lit 3, o3_6 p P) :: (nat_lit 15, o15_0 p P) :: (nat_lit 17, o17_0 p P) :: (nat_lit 18, o18_0 p P) :: (nat_lit 20, o20_0 p P) :: (nat_lit 21, o21_0 p P) :: (nat_lit 29, o29_0 p P) :: (nat_lit 31, o31_0 p P) :: (nat_lit 32, o32_0 p P) :: (nat_lit 34, o34_0 p P) :: (nat_lit 35, o35_0 p P) :: (nat_lit 36, o36_0 p P) :: (nat_lit 37, o37_0 p P) :: (nat_lit 39, o39_0 p P) :: (nat_lit 40, o40_0 p P) :: (nat_lit 42, o42_0 p P) :: (nat_lit 43, o43_0 p P) :: (nat_lit 44, o44_0 p P) :: (nat_lit 46, o46_0 p P) :: (nat_lit 47, o47_0 p P) :: (nat_lit 49, o49_0 p P) :: (nat_lit 50, o50_0 p P) :: (nat_lit 51, o51_0 p P) :: (nat_lit 53, o53_0 p P) :: (nat_lit 54, o54_0 p P) :: (nat_lit 56, o56_0 p P) :: (nat_lit 57, o57_0 p P) :: (nat_lit 58, o58_0 p P) :: (nat_lit 59, o59_0 p P) :: (nat_lit 60, o60_0 p P) :: (nat_lit 61, o61_0 p P) :: (nat_lit 62, o62_0 p P) :: (nat_lit 65, o65_0 p P) :: (nat_lit 68, o68_0 p P) :: (nat_lit 73, o73_0 p P) :: (nat_lit 74, o74_0 p P) :: (nat_lit 75, o75_0 p P) :: (nat_lit 76, o76_0 p P) :: (nat_lit 78, o78_0 p P) :: (nat_lit 79, o79_0 p P) :: (nat_lit 81, o81_0 p P) :: (nat_lit 82, o82_0 p P) :: (nat_lit 83, o83_0 p P) :: (nat_lit 85, o85_0 p P) :: (nat_lit 86, o86_0 p P) :: (nat_lit 88, o88_0 p P) :: (nat_lit 89, o89_0 p P) :: (nat_lit 90, o90_0 p P) :: (nat_lit 91, o91_0 p P) :: (nat_lit 92, o92_0 p P) :: (nat_lit 93, o93_0 p P) :: (nat_lit 94, o94_0 p P) :: (nat_lit 96, o96_0 p P) :: (nat_lit 97, o97_0 p P) :: (nat_lit 99, o99_0 p P) :: (nat_lit 100, o100_0 p P) :: (nat_lit 101, o101_0 p P) :: (nat_lit 103, o103_0 p P) :: (nat_lit 104, o104_0 p P) :: (nat_lit 106, o106_0 p P) :: (nat_lit 107, o107_0 p P) :: (nat_lit 108, o108_0 p P) :: (nat_lit 110, o110_0 p P) :: (nat_lit 111, o111_0 p P) :: (nat_lit 113, o113_0 p P) :: (nat_lit 114, o114_0 p P) :: (nat_lit 115, o115_0 p P) :: (nat_lit 117, o117_0 p P) :: (nat_lit 118, o118_0 p P) :: (nat_lit 120, o120_0 p P) :: (nat_lit 121, o121_0 p P) :: (nat_lit 122, o122_0 p P) :: (nat_lit 123, o123_0 p P) :: (nat_lit 124, o124_0 p P) :: (nat_lit 126, o126_0 p P) :: (nat_lit 127, o127_0 p P) :: (nat_lit 129, o129_0 p P) :: (nat_lit 130, o130_0 p P) :: (nat_lit 132, o132_0 p P) :: (nat_lit 134, o134_0 p P) :: (nat_lit 135, o135_0 p P) :: (nat_lit 136, o136_0 p P) :: (nat_lit 139, o139_0 p P) :: (nat_lit 141, o141_0 p P) :: (nat_lit 142, o142_0 p P) :: (nat_lit 144, o144_0 p P) :: (nat_lit 145, o145_0 p P) :: (nat_lit 153, o153_0 p P) :: (nat_lit 154, o154_0 p P) :: (nat_lit 156, o156_0 p P) :: (nat_lit 157, o157_0 p P) :: (nat_lit 159, o159_0 p P) :: (nat_lit 160, o160_0 p P) :: (nat_lit 161, o161_0 p P) :: (nat_lit 163, o163_0 p P) :: (nat_lit 164, o164_0 p P) :: (nat_lit 166, o166_0 p P) :: (nat_lit 167, o167_0 p P) :: (nat_lit 168, o168_0 p P) :: (nat_lit 170, o170_0 p P) :: (nat_lit 171, o171_0 p P) :: (nat_lit 173, o173_0 p P) :: (nat_lit 174, o174_0 p P) :: (nat_lit 175, o175_0 p P) :: (nat_lit 177, o177_0 p P) :: (nat_lit 178, o178_0 p P) :: (nat_lit 180, o180_0 p P) :: (nat_lit 181, o181_0 p P) :: (nat_lit 182, o182_0 p P) :: (nat_lit 184, o184_0 p P) :: (nat_lit 185, o185_0 p P) :: (nat_lit 187, o187_0 p P) :: (nat_lit 188, o188_0 p P) :: (nat_lit 189, o189_0 p P) :: (nat_lit 190, o190_0 p P) :: (nat_lit 192, o192_0 p P) :: (nat_lit 193, o193_0 p P) :: (nat_lit 195, o195_0 p P) :: (nat_lit 196, o196_0 p P) :: (nat_lit 197, o197_0 p P) :: (nat_lit 199, o199_0 p P) :: (nat_lit 200, o200_0 p P) :: (nat_lit 202, o202_0 p P) :: (nat_lit 203, o203_0 p P) :: (nat_lit 204, o204_0 p P) :: (nat_lit 206, o206_0 p P) :: (nat_lit 207, o207_0 p P) :: (nat_lit 209, o209_0 p P) :: (nat_lit 210, o210_0 p P) :: (nat_lit 211, o211_0 p P) :: (nat_lit 212, o212_0 p P) :: (nat_lit 214, o214_0 p P) :: (nat_lit 215, o215_0 p P) :: (nat_lit 217, o217_0 p P) :: (nat_lit 218, o218_0 p P) :: (nat_lit 219, o219_0 p P) :: (nat_lit 221, o221_0 p P) :: (nat_lit 222, o222_0 p P) :: (nat_lit 224, o224_0 p P) :: (nat_lit 225, o225_0 p P) :: (nat_lit 226, o226_0 p P) :: (nat_lit 228, o228_0 p P) :: (nat_lit 229, o229_0 p P) :: (nat_lit 231, o231_0 p P) :: (nat_lit 232, o232_0 p P) :: (nat_lit 233, o233_0 p P) :: (nat_lit 235, o235_0 p P) :: (nat_lit 236, o236_0 p P) :: (nat_lit 238, o238_0 p P) :: (nat_lit 239, o239_0 p P) :: (nat_lit 240, o240_0 p P) :: (nat_lit 241, o241_0 p P) :: (nat_lit 242, o242_0 p P) :: (nat_lit 243, o243_0 p P) :: (nat_lit 244, o244_0 p P) :: (nat_lit 247, o247_0 p P) :: (nat_lit 249, o249_0 p P) :: (nat_lit 250, o250_0 p P) :: (nat_lit 252, o252_0 p P) :: (nat_lit 253, o253_0 p P) :: (nat_lit 261, o261_0 p P) :: (nat_lit 262, o262_0 p P) :: (nat_lit 264, o264_0 p P) :: (nat_lit 265, o265_0 p P) :: (nat_lit 267, o267_0 p P) :: (nat_lit 268, o268_0 p P) :: (nat_lit 269, o269_0 p P) :: (nat_lit 271, o271_0 p P) :: (nat_lit 272, o272_0 p P) :: (nat_lit 274, o274_0 p P) :: (nat_lit 275, o275_0 p P) :: (nat_lit 276, o276_0 p P) :: (nat_lit 278, o278_0 p P) :: (nat_lit 279, o279_0 p P) :: (nat_lit 281, o281_0 p P) :: (nat_lit 282, o282_0 p P) :: (nat_lit 283, o283_0 p P) :: (nat_lit 285, o285_0 p P) :: (nat_lit 286, o286_0 p P) :: (nat_lit 288, o288_0 p P) :: (nat_lit 289, o289_0 p P) :: (nat_lit 290, o290_0 p P) :: (nat_lit 292, o292_0 p P) :: (nat_lit 293, o293_0 p P) :: (nat_lit 295, o295_0 p P) :: (nat_lit 296, o296_0 p P) :: (nat_lit 297, o297_0 p P) :: (nat_lit 299, o299_0 p P) :: (nat_lit 300, o300_0 p P) :: (nat_lit 302, o302_0 p P) :: (nat_lit 303, o303_0 p P) :: (nat_lit 304, o304_0 p P) :: (nat_lit 306, o306_0 p P) :: (nat_lit 307, o307_0 p P) :: (nat_lit 309, o309_0 p P) :: (nat_lit 310, o310_0 p P) :: (nat_lit 311, o311_0 p P) :: (nat_lit 312, o312_0 p P) :: (nat_lit 313, o313_0 p P) :: (nat_lit 314, o314_0 p P) :: (nat_lit 315, o315_0 p P) :: (nat_lit 318, o318_0 p P) :: (nat_lit 320, o320_0 p P) :: (nat_lit 321, o321_0 p P) :: (nat_lit 323, o323_0 p P) :: (nat_lit 324, o324_0 p P) :: (nat_lit 325, o325_0 p P) :: (nat_lit 328, o328_0 p P) :: (nat_lit 329, o329_0 p P) :: (nat_lit 330, o330_0 p P) :: (nat_lit 332, o332_0 p P) :: (nat_lit 333, o333_0 p P) :: (nat_lit 335, o335_0 p P) :: (nat_lit 336, o336_0 p P) :: []
noncomputable def K (P : Params) : Frag := (nat_lit 2, PySem.W.boot_o_2 P) :: (nat_lit 3, o3_6 pw0 P) :: (nat_lit 15, o15_0 pw0 P) :: (nat_lit 17, o17_0 pw0 P) :: (nat_lit 18, o18_0 pw0 P) :: (nat_lit 20, o20_0 pw0 P) :: (nat_lit 21, o21_0 pw0 P) :: (nat_lit 29, o29_0 pw0 P) :: (nat_lit 31, o31_0 pw0 P) :: (nat_lit 32, o32_0 pw0 P) :: (nat_lit 34, o34_0 pw0 P) :: (nat_lit 35, o35_0 pw0 P) :: (nat_lit 36, o36_0 pw0 P) :: (nat_lit 37, o37_0 pw0 P) :: (nat_lit 39, o39_0 pw0 P) :: (nat_lit 40, o40_0 pw0 P) :: (nat_lit 42, o42_0 pw0 P) :: (nat_lit 43, o43_0 pw0 P) :: (nat_lit 44, o44_0 pw0 P) :: (nat_lit 46, o46_0 pw0 P) :: (nat_lit 47, o47_0 pw0 P) :: (nat_lit 49, o49_0 pw0 P) :: (nat_lit 50, o50_0 pw0 P) :: (nat_lit 51, o51_0 pw0 P) :: (nat_lit 53, o53_0 pw0 P) :: (nat_lit 54, o54_0 pw0 P) :: (nat_lit 56, o56_0 pw0 P) :: (nat_lit 57, o57_0 pw0 P) :: (nat_lit 58, o58_0 pw0 P) :: (nat_lit 59, o59_0 pw0 P) :: (nat_lit 60, o60_0 pw0 P) :: (nat_lit 61, o61_0 pw0 P) :: (nat_lit 62, o62_0 pw0 P) :: (nat_lit 65, o65_0 pw0 P) :: (nat_lit 68, o68_0 pw0 P) :: (nat_lit 73, o73_0 pw0 P) :: (nat_lit 74, o74_0 pw0 P) :: (nat_lit 75, o75_0 pw0 P) :: (nat_lit 76, o76_0 pw0 P) :: (nat_lit 78, o78_0 pw0 P) :: (nat_lit 79, o79_0 pw0 P) :: (nat_lit 81, o81_0 pw0 P) :: (nat_lit 82, o82_0 pw0 P) :: (nat_lit 83, o83_0 pw0 P) :: (nat_lit 85, o85_0 pw0 P) :: (nat_lit 86, o86_0 pw0 P) :: (nat_lit 88, o88_0 pw0 P) :: (nat_lit 89, o89_0 pw0 P) :: (nat_lit 90, o90_0 pw0 P) :: (nat_lit 91, o91_0 pw0 P) :: (nat_lit 92, o92_0 pw0 P) :: (nat_lit 93, o93_0 pw0 P) :: (nat_lit 94, o94_0 pw0 P) :: (nat_lit 96, o96_0 pw0 P) :: (nat_lit 97, o97_0 pw0 P) :: (nat_lit 99, o99_0 pw0 P) :: (nat_lit 100, o100_0 pw0 P) :: (nat_lit 101, o101_0 pw0 P) :: (nat_lit 103, o103_0 pw0 P) :: (nat_lit 104, o104_0 pw0 P) :: (nat_lit 106, o106_0 pw0 P) :: (nat_lit 107, o107_0 pw0 P) :: (nat_lit 108, o108_0 pw0 P) :: (nat_lit 110, o110_0 pw0 P) :: (nat_lit 111, o111_0 pw0 P) :: (nat_lit 113, o113_0 pw0 P) :: (nat_lit 114, o114_0 pw0 P) :: (nat_lit 115, o115_0 pw0 P) :: (nat_lit 117, o117_0 pw0 P) :: (nat_lit 118, o118_0 pw0 P) :: (nat_lit 120, o120_0 pw0 P) :: (nat_lit 121, o121_0 pw0 P) :: (nat_lit 122, o122_0 pw0 P) :: (nat_lit 123, o123_0 pw0 P) :: (nat_lit 124, o124_0 pw0 P) :: (nat_lit 126, o126_0 pw0 P) :: (nat_lit 127, o127_0 pw0 P) :: (nat_lit 129, o129_0 pw0 P) :: (nat_lit 130, o130_0 pw0 P) :: (nat_lit 132, o132_0 pw0 P) :: (nat_lit 134, o134_0 pw0 P) :: (nat_lit 135, o135_0 pw0 P) :: (nat_lit 136, o136_0 pw0 P) :: (nat_lit 139, o139_0 pw0 P) :: (nat_lit 141, o141_0 pw0 P) :: (nat_lit 142, o142_0 pw0 P) :: (nat_lit 144, o144_0 pw0 P) :: (nat_lit 145, o145_0 pw0 P) :: (nat_lit 153, o153_0 pw0 P) :: (nat_lit 154, o154_0 pw0 P) :: (nat_lit 156, o156_0 pw0 P) :: (nat_lit 157, o157_0 pw0 P) :: (nat_lit 159, o159_0 pw0 P) :: (nat_lit 160, o160_0 pw0 P) :: (nat_lit 161, o161_0 pw0 P) :: (nat_lit 163, o163_0 pw0 P) :: (nat_lit 164, o164_0 pw0 P) :: (nat_lit 166, o166_0 pw0 P) :: (nat_lit 167, o167_0 pw0 P) :: (nat_lit 168, o168_0 pw0 P) :: (nat_lit 170, o170_0 pw0 P) :: (nat_lit 171, o171_0 pw0 P) :: (nat_lit 173, o173_0 pw0 P) :: (nat_lit 174, o174_0 pw0 P) :: (nat_lit 175, o175_0 pw0 P) :: (nat_lit 177, o177_0 pw0 P) :: (nat_lit 178, o178_0 pw0 P) :: (nat_lit 180, o180_0 pw0 P) :: (nat_lit 181, o181_0 pw0 P) :: (nat_lit 182, o182_0 pw0 P) :: (nat_lit 184, o184_0 pw0 P) :: (nat_lit 185, o185_0 pw0 P) :: (nat_lit 187, o187_0 pw0 P) :: (nat_lit 188, o188_0 pw0 P) :: (nat_lit 189, o189_0 pw0 P) :: (nat_lit 190, o190_0 pw0 P) :: (nat_lit 192, o192_0 pw0 P) :: (nat_lit 193, o193_0 pw0 P) :: (nat_lit 195, o195_0 pw0 P) :: (nat_lit 196, o196_0 pw0 P) :: (nat_lit 197, o197_0 pw0 P) :: (nat_lit 199, o199_0 pw0 P) :: (nat_lit 200, o200_0 pw0 P) :: (nat_lit 202, o202_0 pw0 P) :: (nat_lit 203, o203_0 pw0 P) :: (nat_lit 204, o204_0 pw0 P) :: (nat_lit 206, o206_0 pw0 P) :: (nat_lit 207, o207_0 pw0 P) :: (nat_lit 209, o209_0 pw0 P) :: (nat_lit 210, o210_0 pw0 P) :: (nat_lit 211, o211_0 pw0 P) :: (nat_lit 212, o212_0 pw0 P) :: (nat_lit 214, o214_0 pw0 P) :: (nat_lit 215, o215_0 pw0 P) :: (nat_lit 217, o217_0 pw0 P) :: (nat_lit 218, o218_0 pw0 P) :: (nat_lit 219, o219_0 pw0 P) :: (nat_lit 221, o221_0 pw0 P) :: (nat_lit 222, o222_0 pw0 P) :: (nat_lit 224, o224_0 pw0 P) :: (nat_lit 225, o225_0 pw0 P) :: (nat_lit 226, o226_0 pw0 P) :: (nat_lit 228, o228_0 pw0 P) :: (nat_lit 229, o229_0 pw0 P) :: (nat_lit 231, o231_0 pw0 P) :: (nat_lit 232, o232_0 pw0 P) :: (nat_lit 233, o233_0 pw0 P) :: (nat_lit 235, o235_0 pw0 P) :: (nat_lit 236, o236_0 pw0 P) :: (nat_lit 238, o238_0 pw0 P) :: (nat_lit 239, o239_0 pw0 P) :: (nat_lit 240, o240_0 pw0 P) :: (nat_lit 241, o241_0 pw0 P) :: (nat_lit 242, o242_0 pw0 P) :: (nat_lit 243, o243_0 pw0 P) :: (nat_lit 244, o244_0 pw0 P) :: (nat_lit 247, o247_0 pw0 P) :: (nat_lit 249, o249_0 pw0 P) :: (nat_lit 250, o250_0 pw0 P) :: (nat_lit 252, o252_0 pw0 P) :: (nat_lit 253, o253_0 pw0 P) :: (nat_lit 261, o261_0 pw0 P) :: (nat_lit 262, o262_0 pw0 P) :: (nat_lit 264, o264_0 pw0 P) :: (nat_lit 265, o265_0 pw0 P) :: (nat_lit 267, o267_0 pw0 P) :: (nat_lit 268, o268_0 pw0 P) :: (nat_lit 269, o269_0 pw0 P) :: (nat_lit 271, o271_0 pw0 P) :: (nat_lit 272, o272_0 pw0 P) :: (nat_lit 274, o274_0 pw0 P) :: (nat_lit 275, o275_0 pw0 P) :: (nat_lit 276, o276_0 pw0 P) :: (nat_lit 278, o278_0 pw0 P) :: (nat_lit 279, o279_0 pw0 P) :: (nat_lit 281, o281_0 pw0 P) :: (nat_lit 282, o282_0 pw0 P) :: (nat_lit 283, o283_0 pw0 P) :: (nat_lit 285, o285_0 pw0 P) :: (nat_lit 286, o286_0 pw0 P) :: (nat_lit 288, o288_0 pw0 P) :: (nat_lit 289, o289_0 pw0 P) :: (nat_lit 290, o290_0 pw0 P) :: (nat_lit 292, o292_0 pw0 P) :: (nat_lit 293, o293_0 pw0 P) :: (nat_lit 295, o295_0 pw0 P) :: (nat_lit 296, o296_0 pw0 P) :: (nat_lit 297, o297_0 pw0 P) :: (nat_lit 299, o299_0 pw0 P) :: (nat_lit 300, o300_0 pw0 P) :: (nat_lit 302, o302_0 pw0 P) :: (nat_lit 303, o303_0 pw0 P) :: (nat_lit 304, o304_0 pw0 P) :: (nat_lit 306, o306_0 pw0 P) :: (nat_lit 307, o307_0 pw0 P) :: (nat_lit 309, o309_0 pw0 P) :: (nat_lit 310, o310_0 pw0 P) :: (nat_lit 311, o311_0 pw0 P) :: (nat_lit 312, o312_0 pw0 P) :: (nat_lit 313, o313_0 pw0 P) :: (nat_lit 314, o314_0 pw0 P) :: (nat_lit 315, o315_0 pw0 P) :: (nat_lit 318, o318_0 pw0 P) :: (nat_lit 320, o320_0 pw0 P) :: (nat_lit 321, o321_0 pw0 P) :: (nat_lit 323, o323_0 pw0 P) :: (nat_lit 324, o324_0 pw0 P) :: (nat_lit 325, o325_0 pw0 P) :: (nat_lit 328, o328_0 pw0 P) :: (nat_lit 329, o329_0 pw0 P) :: (nat_lit 330, o330_0 pw0 P) :: (nat_lit 332, o332_0 pw0 P) :: (nat_lit 333, o333_0 pw0 P) :: (nat_lit 335, o335_0 pw0 P) :: (nat_lit 336, o336_0 pw0 P) :: []
noncomputable def asF : List Addr := [248, 2, 3, 15, 17, 18, 20, 21, 29, 31, 32, 34, 35, 36, 37, 39, 40, 42, 43, 44, 46, 47, 49, 50, 51, 53, 54, 56, 57, 58, 59, 60, 61, 62, 65, 68, 73, 74, 75, 76, 78, 79, 81, 82, 83, 85, 86, 88, 89, 90, 91, 92, 93, 94, 96, 97, 99, 100, 101, 103, 104, 106, 107, 108, 110, 111, 113, 114, 115, 117, 118, 120, 121, 122, 123, 124, 126, 127, 129, 130, 132, 134, 135, 136, 139, 141, 142, 144, 145, 153, 154, 156, 157, 159, 160, 161, 163, 164, 166, 167, 168, 170, 171, 173, 174, 175, 177, 178, 180, 181, 182, 184, 185, 187, 188, 189, 190, 192, 193, 195, 196, 197, 199, 200, 202, 203, 204, 206, 207, 209, 210, 211, 212, 214, 215, 217, 218, 219, 221, 222, 224, 225, 226, 228, 229, 231, 232, 233, 235, 236, 238, 239, 240, 241, 242, 243, 244, 247, 249, 250, 252, 253, 261, 262, 264, 265, 267, 268, 269, 271, 272, 274, 275, 276, 278, 279, 281, 282, 283, 285, 286, 288, 289, 290, 292, 293, 295, 296, 297, 299, 300, 302, 303, 304, 306, 307, 309, 310, 311, 312, 313, 314, 315, 318, 320, 321, 323, 324, 325, 328, 329, 330, 332, 333, 335, 336]
noncomputable def KKF (p : Program) (P : Params) : Frag := (nat_lit 248, o248_0 p P) :: (nat_lit 2, PySem.W.boot_o_2 P) :: (nat_lit 3, o3_6 p P) :: (nat_lit 15, o15_0 p P) :: (nat_lit 17, o17_0 p P) :: (nat_lit 18, o18_0 p P) :: (nat_lit 20, o20_0 p P) :: (nat_lit 21, o21_0 p P) :: (nat_lit 29, o29_0 p P) :: (nat_lit 31, o31_0 p P) :: (nat_lit 32, o32_0 p P) :: (nat_lit 34, o34_0 p P) :: (nat_lit 35, o35_0 p P) :: (nat_lit 36, o36_0 p P) :: (nat_lit 37, o37_0 p P) :: (nat_lit 39, o39_0 p P) :: (nat_lit 40, o40_0 p P) :: (nat_lit 42, o42_0 p P) :: (nat_lit 43, o43_0 p P) :: (nat_lit 44, o44_0 p P) :: (nat_lit 46, o46_0 p P) :: (nat_lit 47, o47_0 p P) :: (nat_lit 49, o49_0 p P) :: (nat_lit 50, o50_0 p P) :: (nat_lit 51, o51_0 p P) :: (nat_lit 53, o53_0 p P) :: (nat_lit 54, o54_0 p P) :: (nat_lit 56, o56_0 p P) :: (nat_lit 57, o57_0 p P) :: (nat_lit 58, o58_0 p P) :: (nat_lit 59, o59_0 p P) :: (nat_lit 60, o60_0 p P) :: (nat_lit 61, o61_0 p P) :: (nat_lit 62, o62_0 p P) :: (nat_lit 65, o65_0 p P) :: (nat_lit 68, o68_0 p P) :: (nat_lit 73, o73_0 p P) :: (nat_lit 74, o74_0 p P) :: (nat_lit 75, o75_0 p P) :: (nat_lit 76, o76_0 p P) :: (nat_lit 78, o78_0 p P) :: (nat_lit 79, o79_0 p P) :: (nat_lit 81, o81_0 p P) :: (nat_lit 82, o82_0 p P) :: (nat_lit 83, o83_0 p P) :: (nat_lit 85, o85_0 p P) :: (nat_lit 86, o86_0 p P) :: (nat_lit 88, o88_0 p P) :: (nat_lit 89, o89_0 p P) :: (nat_lit 90, o90_0 p P) :: (nat_lit 91, o91_0 p P) :: (nat_lit 92, o92_0 p P) :: (nat_lit 93, o93_0 p P) :: (nat_lit 94, o94_0 p P) :: (nat_lit 96, o96_0 p P) :: (nat_lit 97, o97_0 p P) :: (nat_lit 99, o99_0 p P) :: (nat_lit 100, o100_0 p P) :: (nat_lit 101, o101_0 p P) :: (nat_lit 103, o103_0 p P) :: (nat_lit 104, o104_0 p P) :: (nat_lit 106, o106_0 p P) :: (nat_lit 107, o107_0 p P) :: (nat_lit 108, o108_0 p P) :: (nat_lit 110, o110_0 p P) :: (nat_lit 111, o111_0 p P) :: (nat_lit 113, o113_0 p P) :: (nat_lit 114, o114_0 p P) :: (nat_lit 115, o115_0 p P) :: (nat_lit 117, o117_0 p P) :: (nat_lit 118, o118_0 p P) :: (nat_lit 120, o120_0 p P) :: (nat_lit 121, o121_0 p P) :: (nat_lit 122, o122_0 p P) :: (nat_lit 123, o123_0 p P) :: (nat_lit 124, o124_0 p P) :: (nat_lit 126, o126_0 p P) :: (nat_lit 127, o127_0 p P) :: (nat_lit 129, o129_0 p P) :: (nat_lit 130, o130_0 p P) :: (nat_lit 132, o132_0 p P) :: (nat_lit 134, o134_0 p P) :: (nat_lit 135, o135_0 p P) :: (nat_lit 136, o136_0 p P) :: (nat_lit 139, o139_0 p P) :: (nat_lit 141, o141_0 p P) :: (nat_lit 142, o142_0 p P) :: (nat_lit 144, o144_0 p P) :: (nat_lit 145, o145_0 p P) :: (nat_lit 153, o153_0 p P) :: (nat_lit 154, o154_0 p P) :: (nat_lit 156, o156_0 p P) :: (nat_lit 157, o157_0 p P) :: (nat_lit 159, o159_0 p P) :: (nat_lit 160, o160_0 p P) :: (nat_lit 161, o161_0 p P) :: (nat_lit 163, o163_0 p P) :: (nat_lit 164, o164_0 p P) :: (nat_lit 166, o166_0 p P) :: (nat_lit 167, o167_0 p P) :: (nat_lit 168, o168_0 p P) :: (nat_lit 170, o170_0 p P) :: (nat_lit 171, o171_0 p P) :: (nat_lit 173, o173_0 p P) :: (nat_lit 174, o174_0 p P) :: (nat_lit 175, o175_0 p P) :: (nat_lit 177, o177_0 p P) :: (nat_lit 178, o178_0 p P) :: (nat_lit 180, o180_0 p P) :: (nat_lit 181, o181_0 p P) :: (nat_lit 182, o182_0 p P) :: (nat_lit 184, o184_0 p P) :: (nat_lit 185, o185_0 p P) :: (nat_lit 187, o187_0 p P) :: (nat_lit 188, o188_0 p P) :: (nat_lit 189, o189_0 p P) :: (nat_lit 190, o190_0 p P) :: (nat_lit 192, o192_0 p P) :: (nat_lit 193, o193_0 p P) :: (nat_lit 195, o195_0 p P) :: (nat_lit 196, o196_0 p P) :: (nat_lit 197, o197_0 p P) :: (nat_lit 199, o199_0 p P) :: (nat_lit 200, o200_0 p P) :: (nat_lit 202, o202_0 p P) :: (nat_lit 203, o203_0 p P) :: (nat_lit 204, o204_0 p P) :: (nat_lit 206, o206_0 p P) :: (nat_lit 207, o207_0 p P) :: (nat_lit 209, o209_0 p P) :: (nat_lit 210, o210_0 p P) :: (nat_lit 211, o211_0 p P) :: (nat_lit 212, o212_0 p P) :: (nat_lit 214, o214_0 p P) :: (nat_lit 215, o215_0 p P) :: (nat_lit 217, o217_0 p P) :: (nat_lit 218, o218_0 p P) :: (nat_lit 219, o219_0 p P) :: (nat_lit 221, o221_0 p P) :: (nat_lit 222, o222_0 p P) :: (nat_lit 224, o224_0 p P) :: (nat_lit 225, o225_0 p P) :: (nat_lit 226, o226_0 p P) :: (nat_lit 228, o228_0 p P) :: (nat_lit 229, o229_0 p P) :: (nat_lit 231, o231_0 p P) :: (nat_lit 232, o232_0 p P) :: (nat_lit 233, o233_0 p P) :: (nat_lit 235, o235_0 p P) :: (nat_lit 236, o236_0 p P) :: (nat_lit 238, o238_0 p P) :: (nat_lit 239, o239_0 p P) :: (nat_lit 240, o240_0 p P) :: (nat_lit 241, o241_0 p P) :: (nat_lit 242, o242_0 p P) :: (nat_lit 243, o243_0 p P) :: (nat_lit 244, o244_0 p P) :: (nat_lit 247, o247_0 p P) :: (nat_lit 249, o249_0 p P) :: (nat_lit 250, o250_0 p P) :: (nat_lit 252, o252_0 p P) :: (nat_lit 253, o253_0 p P) :: (nat_lit 261, o261_0 p P) :: (nat_lit 262, o262_0 p P) :: (nat_lit 264, o264_0 p P) :: (nat_lit 265, o265_0 p P) :: (nat_lit 267, o267_0 p P) :: (nat_lit 268, o268_0 p P) :: (nat_lit 269, o269_0 p P) :: (nat_lit 271, o271_0 p P) :: (nat_lit 272, o272_0 p P) :: (nat_lit 274, o274_0 p P) :: (nat_lit 275, o275_0 p P) :: (nat_lit 276, o276_0 p P) :: (nat_lit 278, o278_0 p P) :: (nat_lit 279, o279_0 p P) :: (nat_lit 281, o281_0 p P) :: (nat_lit 282, o282_0 p P) :: (nat_lit 283, o283_0 p P) :: (nat_lit 285, o285_0 p P) :: (nat_lit 286, o286_0 p P) :: (nat_lit 288, o288_0 p P) :: (nat_lit 289, o289_0 p P) :: (nat_lit 290, o290_0 p P) :: (nat_lit 292, o292_0 p P) :: (nat_lit 293, o293_0 p P) :: (nat_lit 295, o295_0 p P) :: (nat_lit 296, o296_0 p P) :: (nat_lit 297, o297_0 p P) :: (nat_lit 299, o299_0 p P) :: (nat_lit 300, o300_0 p P) :: (nat_lit 302, o302_0 p P) :: (nat_lit 303, o303_0 p P) :: (nat_lit 304, o304_0 p P) :: (nat_lit 306, o306_0 p P) :: (nat_lit 307, o307_0 p P) :: (nat_lit 309, o309_0 p P) :: (nat_lit 310, o310_0 p P) :: (nat_lit 311, o311_0 p P) :: (nat_lit 312, o312_0 p P) :: (nat_lit 313, o313_0 p P) :: (nat_lit 314, o314_0 p P) :: (nat_lit 315, o315_0 p P) :: (nat_lit 318, o318_0 p P) :: (nat_lit 320, o320_0 p P) :: (nat_lit 321, o321_0 p P) :: (nat_lit 323, o323_0 p P) :: (nat_lit 324, o324_0 p P) :: (nat_lit 325, o325_0 p P) :: (nat_lit 328, o328_0 p P) :: (nat_lit 329, o329_0 p P) :: (nat_lit 330, o330_0 p P) :: (nat_lit 332, o332_0 p P) :: (nat_lit 333, o333_0 p P) :: (nat_lit 335, o335_0 p P) :: (nat_lit 336, o336_0 p P) :: []
noncomputable def KF (P : Params) : Frag := (nat_lit 248, o248_0 pw0 P) :: (nat_lit 2, PySem.W.boot_o_2 P) :: (nat_lit 3, o3_6 pw0 P) :: (nat_lit 15, o15_0 pw0 P) :: (nat_lit 17, o17_0 pw0 P) :: (nat_lit 18, o18_0 pw0 P) :: (nat_lit 20, o20_0 pw0 P) :: (nat_lit 21, o21_0 pw0 P) :: (nat_lit 29, o29_0 pw0 P) :: (nat_lit 31, o31_0 pw0 P) :: (nat_lit 32, o32_0 pw0 P) :: (nat_lit 34, o34_0 pw0 P) :: (nat_lit 35, o35_0 pw0 P) :: (nat_lit 36, o36_0 pw0 P) :: (nat_lit 37, o37_0 pw0 P) :: (nat_lit 39, o39_0 pw0 P) :: (nat_lit 40, o40_0 pw0 P) :: (nat_lit 42, o42_0 pw0 P) :: (nat_lit 43, o43_0 pw0 P) :: (nat_lit 44, o44_0 pw0 P) :: (nat_lit 46, o46_0 pw0 P) :: (nat_lit 47, o47_0 pw0 P) :: (nat_lit 49, o49_0 pw0 P) :: (nat_lit 50, o50_0 pw0 P) :: (nat_lit 51, o51_0 pw0 P) :: (nat_lit 53, o53_0 pw0 P) :: (nat_lit 54, o54_0 pw0 P) :: (nat_lit 56, o56_0 pw0 P) :: (nat_lit 57, o57_0 pw0 P) :: (nat_lit 58, o58_0 pw0 P) :: (nat_lit 59, o59_0 pw0 P) :: (nat_lit 60, o60_0 pw0 P) :: (nat_lit 61, o61_0 pw0 P) :: (nat_lit 62, o62_0 pw0 P) :: (nat_lit 65, o65_0 pw0 P) :: (nat_lit 68, o68_0 pw0 P) :: (nat_lit 73, o73_0 pw0 P) :: (nat_lit 74, o74_0 pw0 P) :: (nat_lit 75, o75_0 pw0 P) :: (nat_lit 76, o76_0 pw0 P) :: (nat_lit 78, o78_0 pw0 P) :: (nat_lit 79, o79_0 pw0 P) :: (nat_lit 81, o81_0 pw0 P) :: (nat_lit 82, o82_0 pw0 P) :: (nat_lit 83, o83_0 pw0 P) :: (nat_lit 85, o85_0 pw0 P) :: (nat_lit 86, o86_0 pw0 P) :: (nat_lit 88, o88_0 pw0 P) :: (nat_lit 89, o89_0 pw0 P) :: (nat_lit 90, o90_0 pw0 P) :: (nat_lit 91, o91_0 pw0 P) :: (nat_lit 92, o92_0 pw0 P) :: (nat_lit 93, o93_0 pw0 P) :: (nat_lit 94, o94_0 pw0 P) :: (nat_lit 96, o96_0 pw0 P) :: (nat_lit 97, o97_0 pw0 P) :: (nat_lit 99, o99_0 pw0 P) :: (nat_lit 100, o100_0 pw0 P) :: (nat_lit 101, o101_0 pw0 P) :: (nat_lit 103, o103_0 pw0 P) :: (nat_lit 104, o104_0 pw0 P) :: (nat_lit 106, o106_0 pw0 P) :: (nat_lit 107, o107_0 pw0 P) :: (nat_lit 108, o108_0 pw0 P) :: (nat_lit 110, o110_0 pw0 P) :: (nat_lit 111, o111_0 pw0 P) :: (nat_lit 113, o113_0 pw0 P) :: (nat_lit 114, o114_0 pw0 P) :: (nat_lit 115, o115_0 pw0 P) :: (nat_lit 117, o117_0 pw0 P) :: (nat_lit 118, o118_0 pw0 P) :: (nat_lit 120, o120_0 pw0 P) :: (nat_lit 121, o121_0 pw0 P) :: (nat_lit 122, o122_0 pw0 P) :: (nat_lit 123, o123_0 pw0 P) :: (nat_lit 124, o124_0 pw0 P) :: (nat_lit 126, o126_0 pw0 P) :: (nat_lit 127, o127_0 pw0 P) :: (nat_lit 129, o129_0 pw0 P) :: (nat_lit 130, o130_0 pw0 P) :: (nat_lit 132, o132_0 pw0 P) :: (nat_lit 134, o134_0 pw0 P) :: (nat_lit 135, o135_0 pw0 P) :: (nat_lit 136, o136_0 pw0 P) :: (nat_lit 139, o139_0 pw0 P) :: (nat_lit 141, o141_0 pw0 P) :: (nat_lit 142, o142_0 pw0 P) :: (nat_lit 144, o144_0 pw0 P) :: (nat_lit 145, o145_0 pw0 P) :: (nat_lit 153, o153_0 pw0 P) :: (nat_lit 154, o154_0 pw0 P) :: (nat_lit 156, o156_0 pw0 P) :: (nat_lit 157, o157_0 pw0 P) :: (nat_lit 159, o159_0 pw0 P) :: (nat_lit 160, o160_0 pw0 P) :: (nat_lit 161, o161_0 pw0 P) :: (nat_lit 163, o163_0 pw0 P) :: (nat_lit 164, o164_0 pw0 P) :: (nat_lit 166, o166_0 pw0 P) :: (nat_lit 167, o167_0 pw0 P) :: (nat_lit 168, o168_0 pw0 P) :: (nat_lit 170, o170_0 pw0 P) :: (nat_lit 171, o171_0 pw0 P) :: (nat_lit 173, o173_0 pw0 P) :: (nat_lit 174, o174_0 pw0 P) :: (nat_lit 175, o175_0 pw0 P) :: (nat_lit 177, o177_0 pw0 P) :: (nat_lit 178, o178_0 pw0 P) :: (nat_lit 180, o180_0 pw0 P) :: (nat_lit 181, o181_0 pw0 P) :: (nat_lit 182, o182_0 pw0 P) :: (nat_lit 184, o184_0 pw0 P) :: (nat_lit 185, o185_0 pw0 P) :: (nat_lit 187, o187_0 pw0 P) :: (nat_lit 188, o188_0 pw0 P) :: (nat_lit 189, o189_0 pw0 P) :: (nat_lit 190, o190_0 pw0 P) :: (nat_lit 192, o192_0 pw0 P) :: (nat_lit 193, o193_0 pw0 P) :: (nat_lit 195, o195_0 pw0 P) :: (nat_lit 196, o196_0 pw0 P) :: (nat_lit 197, o197_0 pw0 P) :: (nat_lit 199, o199_0 pw0 P) :: (nat_lit 200, o200_0 pw0 P) :: (nat_lit 202, o202_0 pw0 P) :: (nat_lit 203, o203_0 pw0 P) :: (nat_lit 204, o204_0 pw0 P) :: (nat_lit 206, o206_0 pw0 P) :: (nat_lit 207, o207_0 pw0 P) :: (nat_lit 209, o209_0 pw0 P) :: (nat_lit 210, o210_0 pw0 P) :: (nat_lit 211, o211_0 pw0 P) :: (nat_lit 212, o212_0 pw0 P) :: (nat_lit 214, o214_0 pw0 P) :: (nat_lit 215, o215_0 pw0 P) :: (nat_lit 217, o217_0 pw0 P) :: (nat_lit 218, o218_0 pw0 P) :: (nat_lit 219, o219_0 pw0 P) :: (nat_lit 221, o221_0 pw0 P) :: (nat_lit 222, o222_0 pw0 P) :: (nat_lit 224, o224_0 pw0 P) :: (nat_lit 225, o225_0 pw0 P) :: (nat_lit 226, o226_0 pw0 P) :: (nat_lit 228, o228_0 pw0 P) :: (nat_lit 229, o229_0 pw0 P) :: (nat_lit 231, o231_0 pw0 P) :: (nat_lit 232, o232_0 pw0 P) :: (nat_lit 233, o233_0 pw0 P) :: (nat_lit 235, o235_0 pw0 P) :: (nat_lit 236, o236_0 pw0 P) :: (nat_lit 238, o238_0 pw0 P) :: (nat_lit 239, o239_0 pw0 P) :: (nat_lit 240, o240_0 pw0 P) :: (nat_lit 241, o241_0 pw0 P) :: (nat_lit 242, o242_0 pw0 P) :: (nat_lit 243, o243_0 pw0 P) :: (nat_lit 244, o244_0 pw0 P) :: (nat_lit 247, o247_0 pw0 P) :: (nat_lit 249, o249_0 pw0 P) :: (nat_lit 250, o250_0 pw0 P) :: (nat_lit 252, o252_0 pw0 P) :: (nat_lit 253, o253_0 pw0 P) :: (nat_lit 261, o261_0 pw0 P) :: (nat_lit 262, o262_0 pw0 P) :: (nat_lit 264, o264_0 pw0 P) :: (nat_lit 265, o265_0 pw0 P) :: (nat_lit 267, o267_0 pw0 P) :: (nat_lit 268, o268_0 pw0 P) :: (nat_lit 269, o269_0 pw0 P) :: (nat_lit 271, o271_0 pw0 P) :: (nat_lit 272, o272_0 pw0 P) :: (nat_lit 274, o274_0 pw0 P) :: (nat_lit 275, o275_0 pw0 P) :: (nat_lit 276, o276_0 pw0 P) :: (nat_lit 278, o278_0 pw0 P) :: (nat_lit 279, o279_0 pw0 P) :: (nat_lit 281, o281_0 pw0 P) :: (nat_lit 282, o282_0 pw0 P) :: (nat_lit 283, o283_0 pw0 P) :: (nat_lit 285, o285_0 pw0 P) :: (nat_lit 286, o286_0 pw0 P) :: (nat_lit 288, o288_0 pw0 P) :: (nat_lit 289, o289_0 pw0 P) :: (nat_lit 290, o290_0 pw0 P) :: (nat_lit 292, o292_0 pw0 P) :: (nat_lit 293, o293_0 pw0 P) :: (nat_lit 295, o295_0 pw0 P) :: (nat_lit 296, o296_0 pw0 P) :: (nat_lit 297, o297_0 pw0 P) :: (nat_lit 299, o299_0 pw0 P) :: (nat_lit 300, o300_0 pw0 P) :: (nat_lit 302, o302_0 pw0 P) :: (nat_lit 303, o303_0 pw0 P) :: (nat_lit 304, o304_0 pw0 P) :: (nat_lit 306, o306_0 pw0 P) :: (nat_lit 307, o307_0 pw0 P) :: (nat_lit 309, o309_0 pw0 P) :: (nat_lit 310, o310_0 pw0 P) :: (nat_lit 311, o311_0 pw0 P) :: (nat_lit 312, o312_0 pw0 P) :: (nat_lit 313, o313_0 pw0 P) :: (nat_lit 314, o314_0 pw0 P) :: (nat_lit 315, o315_0 pw0 P) :: (nat_lit 318, o318_0 pw0 P) :: (nat_lit 320, o320_0 pw0 P) :: (nat_lit 321, o321_0 pw0 P) :: (nat_lit 323, o323_0 pw0 P) :: (nat_lit 324, o324_0 pw0 P) :: (nat_lit 325, o325_0 pw0 P) :: (nat_lit 328, o328_0 pw0 P) :: (nat_lit 329, o329_0 pw0 P) :: (nat_lit 330, o330_0 pw0 P) :: (nat_lit 332, o332_0 pw0 P) :: (nat_lit 333, o333_0 pw0 P) :: (nat_lit 335, o335_0 pw0 P) :: (nat_lit 336, o336_0 pw0 P) :: []
noncomputable def loose : List Str := ["_wall", "_tuplegetter", "Match", "_calculate_ratio", "SequenceMatcher", "_keep_original_ws", "Differ", "_law_hint", "_law_due"]
noncomputable def q (p : Program) : Program := { p with main := { p.main with body := (bd p).drop 11 } }
end Mine

end
section -- L6
open PySem PySem.W PySem.Calls PyProof.Rows
set_option Elab.async false
namespace Mine
set_option maxRecDepth 100000
set_option maxHeartbeats 0
noncomputable def Xt (p : Program) (s : Shared) : Bool := xlAt (q p) [] s && recOk (PySem.Challenge.rw_dm0062_06.row.toRowW.records) s
noncomputable def hk (p : Program) : Hook := kHook (KKF p) asF (fun _ => rfl)
theorem open_ (w : World) : (fencedOpening treeTable pw w 5574).map (fun s => (s.heap, s.gens, s.drawn, s.toks)) = some (boot_heap w.params, Array.mk [], boot_drawn, boot_toks) :=
  boot_open (by kernel_rfl) (by kernel_rfl) (fun s => by kernel_rfl) w
theorem size (w : World) : ((boot_heap w.params).isNs mainGlobals && (Array.mk [] : Array GenState).size == 0, (boot_heap w.params).objs.size, (boot_heap w.params).nsMap mainGlobals "__annotations__") = (true, 11, ann) := by kernel_rfl
theorem look1 (w : World) (os : OsState) : (staticsOk (importedModules pw.main.body) (boot_heap w.params) (Hf pw w.params) && namesBound pw (Hf pw w.params) && gensDone (Sf w os) && laidKept (boot_heap w.params) (Hf pw w.params)) = true := by kernel_rfl
theorem look3 (w : World) (os : OsState) : (hk pw).obs (Sf w os) = (hk pw).val w := by kernel_rfl
end Mine

end
section -- L6b
open PySem PySem.W PySem.Calls PyProof.Rows
set_option Elab.async false
namespace Mine
set_option maxRecDepth 100000
set_option maxHeartbeats 0
theorem look2 (w : World) (os : OsState) : openSeen (q pw) loose (importedModules pw.main.body) (Xt pw) true (Sf w os) = openGood (q pw) loose := by
  rw [PySem.W.Fast.te4187177175401517315]
  kernel_rfl
end Mine

end
section -- Hd6M
open PySem PySem.W PySem.Calls PyProof.Rows
set_option Elab.async false
namespace Mine
set_option maxRecDepth 100000
set_option maxHeartbeats 0
theorem left : LeftO pw (q pw) loose (Xt pw) (hk pw).obs (hk pw).val 5574 :=
  LeftO.of_pieces (H₀ := boot_heap) (H₁ := Hf pw) (m₀ := 11) (ann := ann) (M := 2746) open_ size run (by rfl) (fun w => funext fun os => Prod.ext (look1 w os) (Prod.ext (look2 w os) (look3 w os)))
noncomputable def hk0 : Hook := kHook KF asF (fun _ => rfl)
theorem left0 : LeftO pw0 (q pw0) loose (Xt pw0) hk0.obs hk0.val 5574 := by
  show LeftO pw0 (q pw0) loose (Xt pw0) (hk pw0).obs (hk pw0).val 5574
  rw [pw_eq]
  exact left
end Mine

end
section -- Pure
open PySem PySem.W PyProof.Rows PySem.Calls
set_option Elab.async false
set_option maxRecDepth 100000
set_option maxHeartbeats 8000000
namespace Mine
abbrev prog0 : Program := PySem.Challenge.rw_dm0062_06.row.prog
noncomputable abbrev loose0 : List Str := looseW (q pw0) loose
abbrev arA (dp un : Nat) (gd : Option (List Code)) (outer : List Env) : Around := { handled := none, depth := dp, frames := some outer, guards := gd, units := un }
theorem pure_enter {prog p : Program} {w : World} {dp un : Nat} {gd : Option (List Code)} {outer : List Env} {A₀ : Around} {base : Heap} {s : Shared} {K : Frag} {loose : List Str} {mean : ExcName → Option Value} {mg mb : Str → Option Value}
    {R : Result → Shared → Prop} {name qual : Str} {params : Arguments} {body : List Stmt} {scope : Scope} {dV kV doc pm cdv ct oc : Value} {an od : Option Addr} {osl : Array (Option Value)} {f : Addr} {args : Args} {binds : List (Str × Value)}
    (B : Below A₀ base outer s.heap) (X : K.In s.heap) (T : Top p loose mean mg mb s.heap)
    (ho : K.lookup f = some ⟨oc, od, .func (fnOf name qual params body scope dV kV doc pm an cdv ct), osl⟩) (hcd : codeIn K cdv qual = true) (hroom : dp < recursionLimit)
    (hbind : BindsTo s (fnOf name qual params body scope dV kV doc pm an cdv ct) args binds) (hloc : ∀ y ∈ binds, scope.names.lookup y.1 = some .local)
    (h : ∀ L' h₁, Fr s.heap L' h₁ (fun y => binds.reverse.lookup y) → News s.heap L' h₁ [] → Below (arA dp un gd outer) base outer s.heap → K.In s.heap → Top p loose mean mg mb s.heap →
      wpAny (model prog w) ((arA dp un gd outer).deeper (envOf qual scope L' f cdv)) (execs body (envOf qual scope L' f cdv))
        (fun fl s' => R (.ok (.ret (match fl with | .ret v => v | _ => .none))) s')
        (fun e s' => wpAny (model prog w) ((arA dp un gd outer).deeper (envOf qual scope L' f cdv)) (leaving (envOf qual scope L' f cdv) e) (fun _ s'' => R (.error e) s'') (fun e' s'' => R (.error e') s'') s')
        { s with heap := h₁, toks := s.toks + binds.length })
    (hco : scope.isCoroutine = false) (hgen : scope.isGenerator = false) (hk : scope.kind = .function) (hcell : ∀ x ∈ scope.names, x.2 ≠ .cell) :
    codeAny (model prog w) (arA dp un gd outer) (.call (.ref f) args) R s :=
  codeAny_call_def (fd := fnOf name qual params body scope dV kV doc pm an cdv ct) (body := body) (binds := binds) hroom (X _ _ ho) rfl T.nolimit (codeRec_of X hcd) rfl hbind hcell hloc
    (fun h₁ hns hk₁ => h s.heap.objs.size h₁ ⟨hns, hk₁, Nat.le_refl _⟩ News.nil ⟨rfl, B.stays, B.frames⟩ X T) hco hgen hk
end Mine

end
section -- Hint
open PySem PySem.W PyProof.Rows PySem.Calls
set_option Elab.async false
set_option maxRecDepth 100000
namespace Mine
def wsE (c : Str) : Bool := (Builtin.Str.occurrences (Str.ofString "\t \n") c 0 (Str.ofString "\t \n").length 1).isEmpty
def blank (y : Str) (k : Int) : Bool := Txt.item y k == Str.ofString " "
def sgn (x y : Str) (k : Int) : Str := if blank y k = true then (if wsE (Txt.item x k) = true then Txt.item y k else Txt.item x k) else Txt.item y k
def layN (x y : Str) : Nat → Str
  | 0 => Str.ofString ""
  | n + 1 => layN x y n ++ sgn x y n
def LayQ (x y : Str) (k : Int) (pre : List Int) (laid : Str) : Prop := laid = layN x y pre.length ∧ (k = 2 → ∀ j : Nat, j < pre.length → blank y j = false)
abbrev LayP (x y : Str) (k : Int) (pre : List Int) (laid : Str) : Prop := laid.length ≤ pre.length ∧ LayQ x y k pre laid
def LayOld (x y : Str) (k : Int) (pre : List Int) (laid : Str) : Prop := laid.length ≤ pre.length ∧ laid = layN x y pre.length ∧ (k = 2 → ∀ j : Nat, j < pre.length → blank y j = false)
theorem lay_start (x y : Str) (k : Int) : LayP x y k [] (Str.ofString "") := ⟨Nat.le_of_eq (by decide +kernel), rfl, fun _ _ h => absurd h (Nat.not_lt_zero _)⟩
theorem lay_step {x y : Str} {k : Int} {pre : List Int} {laid c : Str} {n : Int} (h2 : laid.length ≤ pre.length) (h : LayQ x y k pre laid) (e : n = 0 + (pre.length : Int)) (hc : c = sgn x y n) (hl : (laid ++ c).length ≤ laid.length + c.length) (h1 : c.length ≤ 1) (hk : k = 2 → blank y n = false) : LayP x y k (pre ++ [n]) (laid ++ c) := by
  obtain ⟨h3, h4⟩ := h
  have e' : n = (pre.length : Int) := by omega
  refine ⟨?_, ?_, fun q j hj => ?_⟩
  · rw [List.length_append, List.length_singleton]; omega
  · rw [List.length_append, List.length_singleton]
    show laid ++ c = layN x y pre.length ++ sgn x y pre.length
    rw [← h3, hc, e']
  · rw [List.length_append, List.length_singleton] at hj
    by_cases q' : j = pre.length
    · subst q'; rw [← e']; exact hk q
    · exact h4 q j (by omega)
theorem sgn_ws {x y : Str} {n : Int} (hb : (Txt.item y n == Str.ofString " ") = true) (hw : (Builtin.Str.occurrences (Str.ofString "\t \n") (Txt.item x n) 0 (Str.ofString "\t \n").length 1).isEmpty = false) : Txt.item x n = sgn x y n := by
  unfold sgn blank wsE; rw [if_pos hb, hw]; rfl
theorem sgn_no {x y : Str} {n : Int} (hb : (Txt.item y n == Str.ofString " ") = true) (hw : (Builtin.Str.occurrences (Str.ofString "\t \n") (Txt.item x n) 0 (Str.ofString "\t \n").length 1).isEmpty = true) : Txt.item y n = sgn x y n := by
  unfold sgn blank wsE; rw [if_pos hb, if_pos hw]
theorem sgn_other {x y : Str} {n : Int} (hb : (Txt.item y n == Str.ofString " ") = false) : Txt.item y n = sgn x y n := by
  unfold sgn blank; rw [hb]; rfl
theorem hint_blank {y : Str} {n : Int} {m : Nat} (e : n = 0 + (m : Int)) (h : (Txt.item y n == Str.ofString " ") = true) : blank y m = true := by
  have e' : n = (m : Int) := by omega
  rw [e'] at h
  exact h
theorem hint_len (x y : Str) : (rangeKs 0 ((if (y.length : Int) < (x.length : Int) then (y.length : Int) else (x.length : Int)) - 0).toNat).length = min x.length y.length := by
  rw [rangeKs_length]
  split <;> omega
def minL (x y : Str) : Nat := min x.length y.length
set_option maxHeartbeats 8000000 in
theorem hint_pure (w : World) (mean : ExcName → Option Value) (mg mb : Str → Option Value) (dp un : Nat) (gd : Option (List Code)) (outer : List Env) (A₀ : Around) (base : Heap) (s : Shared) (R : Result → Shared → Prop)
    (x y : Str) (k : Int) (t1 t2 t3 : Tok) (hx : x.length ≤ 100) (hy : y.length ≤ 100)
    (B : Below A₀ base outer s.heap) (X : (K w.params).In s.heap) (T : Top (q pw0) loose0 mean mg mb s.heap) (hd : dp + 1 < recursionLimit) (hu : un + 20 < cLine)
    (hA : k = 2 → (∃ j : Nat, j < minL x y ∧ blank y j = true) → ∀ t h' tk', (∀ b o, s.heap.get? b = some o → h'.get? b = some o) → R (.ok (.ret (.str (Str.ofString "AttributeError") t))) { s with heap := h', toks := tk' })
    (hT : (k = 2 → ∀ j : Nat, j < minL x y → blank y j = false) → k = 3 → ∀ t h' tk', (∀ b o, s.heap.get? b = some o → h'.get? b = some o) → R (.ok (.ret (.str (Str.ofString "TypeError") t))) { s with heap := h', toks := tk' })
    (hS : (k = 2 → ∀ j : Nat, j < minL x y → blank y j = false) → k ≠ 3 → ∀ t h' tk', (∀ b o, s.heap.get? b = some o → h'.get? b = some o) → R (.ok (.ret (.str (Txt.rstripChars (layN x y (minL x y)) (Str.ofString "\t \n")) t))) { s with heap := h', toks := tk' }) :
    codeAny (model PySem.Challenge.rw_dm0062_06.row.prog w) (arA dp un gd outer) (.call (.ref 324) ⟨[.str x t1, .str y t2, .int k t3], []⟩) R s := by
  revert X
  k_fill
  intro X
  refine' pure_enter ?k1 ?k2 ?k3 ?k4 ?k5 ?k6 ?k7 ?k8 ?_ ?c1 ?c2 ?c3 ?c4
  case k1 => exact B
  case k2 => exact X
  case k3 => exact T
  case k4 => k_is
  case k5 => k_is
  case k6 => omega
  case k7 => exact BindsTo.of_eq rfl
  case k8 => exact locs rfl
  case c1 => exact rfl
  case c2 => exact rfl
  case c3 => exact rfl
  case c4 => decide
  intro L' h₁ F' N' B' X' T'
  clear B X T
  show wpAny _ _ (execs (_ :: _) _) _ _ _
  (try k_fold)
  (k_with "state" => first
    | exact lay_start x y k
    | exact lay_step (by assumption) (by assumption) (by assumption) (sgn_other (by assumption)) (by omega) (by omega) (fun _ => by assumption)
    | exact lay_step (by assumption) (by assumption) (by assumption) (sgn_no (by assumption) (by assumption)) (by omega) (by omega) (fun q => by omega)
    | exact lay_step (by assumption) (by assumption) (by assumption) (sgn_ws (by assumption) (by assumption)) (by omega) (by omega) (fun q => by omega))
  repeat' (first | (fail_if_success (with_reducible show wpAny _ _ (pyIter (Value.ref _)) _ _ _)); first | (k_unfold; (try dsimp only)) | (k_end; wrow_close) | walk1 | (dsimp only; walk1) | (leave1; walk_say "STEP leave1"; try dsimp only) | fail "no step")
  k_state (fun pre laid => laid.length ≤ pre.length ∧ LayQ x y k pre laid) "laid"
  all_goals k_steps
  · exact hA (by assumption) ⟨kPre.length, by unfold minL; omega, hint_blank (by assumption) (by assumption)⟩ _ _ _ (Fr.keep (by assumption))
  · rename LayQ _ _ _ _ _ => hq
    have hq2 := hq.2
    rw [hint_len] at hq2
    exact hT hq2 (by assumption) _ _ _ (Fr.keep (by assumption))
  · rename LayQ _ _ _ _ _ => hq
    have hq1 := hq.1
    have hq2 := hq.2
    rw [hint_len] at hq1 hq2
    rw [hq1]
    exact hS hq2 (by assumption) _ _ _ (Fr.keep (by assumption))
end Mine

end
section -- Due0
open PySem PySem.W PyProof.Rows PySem.Calls
set_option Elab.async false
set_option maxRecDepth 100000
namespace Mine
def blankIn (x y : Str) : Bool := (List.range (minL x y)).any fun j => blank y j
def hintF (x y : Str) (k : Int) : Str := if k = 2 ∧ blankIn x y = true then Str.ofString "AttributeError" else if k = 3 then Str.ofString "TypeError" else Txt.rstripChars (layN x y (minL x y)) (Str.ofString "\t \n")
theorem blankIn_true {x y : Str} : blankIn x y = true ↔ ∃ j : Nat, j < minL x y ∧ blank y j = true := by
  unfold blankIn
  rw [List.any_eq_true]
  constructor
  · rintro ⟨j, h, e⟩; exact ⟨j, List.mem_range.mp h, e⟩
  · rintro ⟨j, h, e⟩; exact ⟨j, List.mem_range.mpr h, e⟩
theorem hint_one {w : World} {mean : ExcName → Option Value} {mg mb : Str → Option Value} {dp un : Nat} {gd : Option (List Code)} {outer : List Env} {A₀ : Around} {base : Heap} {s : Shared} {Q E : Value → Shared → Prop}
    {x y : Str} {k : Int} {t1 t2 t3 : Tok} (hx : x.length ≤ 100) (hy : y.length ≤ 100)
    (B : Below A₀ base outer s.heap) (X : (K w.params).In s.heap) (T : Top (q pw0) loose0 mean mg mb s.heap) (hd : dp + 1 < recursionLimit) (hu : un + 20 < cLine)
    (hret : ∀ t h' tk', (∀ b o, s.heap.get? b = some o → h'.get? b = some o) → (hintF x y k).length ≤ 100 → Q (.str (hintF x y k) t) { s with heap := h', toks := tk' })
    (hlen : (hintF x y k).length ≤ 100) :
    wpAny (model PySem.Challenge.rw_dm0062_06.row.prog w) (arA dp un gd outer) (call (.ref 324) [.str x t1, .str y t2, .int k t3]) Q E s := by
  refine wpAny_call (hint_pure w mean mg mb dp un gd outer A₀ base s _ x y k t1 t2 t3 hx hy B X T hd hu (fun hk hb t h' tk' hp => ?_) (fun hn hk t h' tk' hp => ?_) fun hn hk t h' tk' hp => ?_)
  · have e : hintF x y k = Str.ofString "AttributeError" := by unfold hintF; rw [if_pos ⟨hk, blankIn_true.mpr hb⟩]
    have := hret t h' tk' hp hlen
    rw [e] at this; exact this
  · have e : hintF x y k = Str.ofString "TypeError" := by unfold hintF; rw [if_neg (fun q => by omega), if_pos hk]
    have := hret t h' tk' hp hlen
    rw [e] at this; exact this
  · have e : hintF x y k = Txt.rstripChars (layN x y (minL x y)) (Str.ofString "\t \n") := by
      unfold hintF
      rw [if_neg (fun q => ?_), if_neg hk]
      obtain ⟨j, hj, hb⟩ := blankIn_true.mp q.2
      rw [hn q.1 j hj] at hb; cases hb
    have := hret t h' tk' hp hlen
    rw [e] at this; exact this
end Mine

end
section -- PureC
open PySem PySem.W PyProof.Rows PySem.Calls
set_option Elab.async false
set_option maxRecDepth 100000
namespace Mine
theorem pure_enterC {prog p : Program} {w : World} {dp un : Nat} {gd : Option (List Code)} {outer : List Env} {A₀ : Around} {base : Heap} {s : Shared} {K : Frag} {loose : List Str} {mean : ExcName → Option Value} {mg mb : Str → Option Value}
    {R : Result → Shared → Prop} {name qual : Str} {params : Arguments} {body : List Stmt} {scope : Scope} {dV kV doc pm cdv ct oc : Value} {an od : Option Addr} {osl : Array (Option Value)} {f : Addr} {args : Args} {binds : List (Str × Value)}
    (B : Below A₀ base outer s.heap) (X : K.In s.heap) (T : Top p loose mean mg mb s.heap)
    (ho : K.lookup f = some ⟨oc, od, .func (fnOf name qual params body scope dV kV doc pm an cdv ct), osl⟩) (hcd : codeIn K cdv qual = true) (hroom : dp < recursionLimit)
    (hbind : BindsTo s (fnOf name qual params body scope dV kV doc pm an cdv ct) args binds) (hkind : (binds.all fun y => scope.names.lookup y.1 == some .local || scope.names.lookup y.1 == some .cell) = true)
    (hnd : ((cellsFrom 0 scope.names []).map (·.1)).Nodup)
    (h : ∀ L' h₁ tk cells, Fr s.heap L' h₁ (bindL (envOfC qual scope L' f cdv).kindOf binds fun _ => none) → News s.heap L' h₁ cells → CellsAre (bindC (envOfC qual scope L' f cdv).kindOf binds fun _ => none) (cellsFrom (L' + 1) scope.names []) cells →
      Below (arA dp un gd outer) base outer s.heap → K.In s.heap → Top p loose mean mg mb s.heap →
      wpAny (model prog w) ((arA dp un gd outer).deeper (envOfC qual scope L' f cdv)) (execs body (envOfC qual scope L' f cdv))
        (fun fl s' => R (.ok (.ret (match fl with | .ret v => v | _ => .none))) s')
        (fun e s' => wpAny (model prog w) ((arA dp un gd outer).deeper (envOfC qual scope L' f cdv)) (leaving (envOfC qual scope L' f cdv) e) (fun _ s'' => R (.error e) s'') (fun e' s'' => R (.error e') s'') s')
        { s with heap := h₁, toks := tk })
    (hco : scope.isCoroutine = false) (hgen : scope.isGenerator = false) (hk : scope.kind = .function) :
    codeAny (model prog w) (arA dp un gd outer) (.call (.ref f) args) R s := by
  refine codeAny_call_function hroom (X _ _ ho) rfl hco hgen rfl (codeRec_of X hcd) (hbind _ _ _ _ ?_)
  refine wpAny_newFunctionEnv_cells hk (kindsX hkind _) fun env' he s' x => ?_
  subst he
  refine ⟨T.nolimit.keeps x.toInCall.keep, codeAny_func ?_⟩
  obtain ⟨h₁, tk, rfl, _⟩ := x.done
  obtain ⟨cells, NC, Y⟩ := Cl.news (h₀ := s.heap) (Nat.le_refl _) fun n c hm => ⟨x.cell n c (lookup_of_mem_nodup (cellsFrom_names scope.names 0 (s.heap.objs.size + 1) [] [] rfl ▸ hnd) hm), x.above n c hm⟩
  exact h s.heap.objs.size h₁ tk cells ⟨x.toInCall.ns, x.toInCall.keep, Nat.le_refl _⟩ NC Y ⟨rfl, B.stays, B.frames⟩ X T
end Mine

end
section -- Due
open PySem PySem.W PyProof.Rows PySem.Calls
set_option Elab.async false
set_option maxRecDepth 100000
set_option pp.maxSteps 1500
namespace Mine
def tErr : Str := Str.ofString "TypeError"
def isErr (h : Str) : Bool := [Str.ofString "TypeError", Str.ofString "AttributeError"].any fun x => x == h
def tail1 (h : Str) : List Str := if (h != Str.ofString "") = true then [Str.ofString "? " ++ h ++ Str.ofString "\n"] else []
def dueL (l0 l1 h0 h1 : Str) (k0 k1 : Int) : List Str :=
  if isErr h0 = true then [h0] else if isErr h1 = true then [h1] else if k0 ≠ 0 then [tErr] else
    (Str.ofString "- " ++ l0) :: (tail1 h0 ++ (if k1 ≠ 0 then [tErr] else (Str.ofString "+ " ++ l1) :: tail1 h1))
inductive StrsAre : List Value → List Str → Prop
  | nil : StrsAre [] []
  | cons {v : Value} {d : Str} {vs : List Value} {ds : List Str} : (∃ t, v = Value.str d t) → StrsAre vs ds → StrsAre (v :: vs) (d :: ds)
theorem tail_t {h : Str} (e : (h != Str.ofString "") = true) : tail1 h = [Str.ofString "? " ++ h ++ Str.ofString "\n"] := if_pos e
theorem tail_f {h : Str} (e : (h != Str.ofString "") = false) : tail1 h = [] := if_neg (by rw [e]; exact Bool.false_ne_true)
section
variable {l0 l1 h0 h1 : Str} {k0 k1 : Int}
theorem due_0 (a : isErr h0 = true) : dueL l0 l1 h0 h1 k0 k1 = [h0] := if_pos a
theorem due_1 (a : isErr h0 = false) (b : isErr h1 = true) : dueL l0 l1 h0 h1 k0 k1 = [h1] := by unfold dueL; rw [if_neg (by rw [a]; exact Bool.false_ne_true), if_pos b]
theorem due_2 (a : isErr h0 = false) (b : isErr h1 = false) (c : k0 ≠ 0) : dueL l0 l1 h0 h1 k0 k1 = [tErr] := by unfold dueL; rw [if_neg (by rw [a]; exact Bool.false_ne_true), if_neg (by rw [b]; exact Bool.false_ne_true), if_pos c]
theorem due_3 (a : isErr h0 = false) (b : isErr h1 = false) (c : k0 = 0) (d : k1 ≠ 0) : dueL l0 l1 h0 h1 k0 k1 = (Str.ofString "- " ++ l0) :: (tail1 h0 ++ [tErr]) := by
  unfold dueL; rw [if_neg (by rw [a]; exact Bool.false_ne_true), if_neg (by rw [b]; exact Bool.false_ne_true), if_neg (fun q => q c), if_pos d]
theorem due_4 (a : isErr h0 = false) (b : isErr h1 = false) (c : k0 = 0) (d : k1 = 0) : dueL l0 l1 h0 h1 k0 k1 = (Str.ofString "- " ++ l0) :: (tail1 h0 ++ ((Str.ofString "+ " ++ l1) :: tail1 h1)) := by
  unfold dueL; rw [if_neg (by rw [a]; exact Bool.false_ne_true), if_neg (by rw [b]; exact Bool.false_ne_true), if_neg (fun q => q c), if_neg (fun q => q d)]
theorem due_3t (a : isErr h0 = false) (b : isErr h1 = false) (c : k0 = 0) (d : k1 ≠ 0) (e : (h0 != Str.ofString "") = true) : dueL l0 l1 h0 h1 k0 k1 = [Str.ofString "- " ++ l0, Str.ofString "? " ++ h0 ++ Str.ofString "\n", tErr] := by rw [due_3 a b c d, tail_t e]; rfl
theorem due_3f (a : isErr h0 = false) (b : isErr h1 = false) (c : k0 = 0) (d : k1 ≠ 0) (e : (h0 != Str.ofString "") = false) : dueL l0 l1 h0 h1 k0 k1 = [Str.ofString "- " ++ l0, tErr] := by rw [due_3 a b c d, tail_f e]; rfl
theorem due_4tt (a : isErr h0 = false) (b : isErr h1 = false) (c : k0 = 0) (d : k1 = 0) (e : (h0 != Str.ofString "") = true) (f : (h1 != Str.ofString "") = true) : dueL l0 l1 h0 h1 k0 k1 = [Str.ofString "- " ++ l0, Str.ofString "? " ++ h0 ++ Str.ofString "\n", Str.ofString "+ " ++ l1, Str.ofString "? " ++ h1 ++ Str.ofString "\n"] := by rw [due_4 a b c d, tail_t e, tail_t f]; rfl
theorem due_4tf (a : isErr h0 = false) (b : isErr h1 = false) (c : k0 = 0) (d : k1 = 0) (e : (h0 != Str.ofString "") = true) (f : (h1 != Str.ofString "") = false) : dueL l0 l1 h0 h1 k0 k1 = [Str.ofString "- " ++ l0, Str.ofString "? " ++ h0 ++ Str.ofString "\n", Str.ofString "+ " ++ l1] := by rw [due_4 a b c d, tail_t e, tail_f f]; rfl
theorem due_4ft (a : isErr h0 = false) (b : isErr h1 = false) (c : k0 = 0) (d : k1 = 0) (e : (h0 != Str.ofString "") = false) (f : (h1 != Str.ofString "") = true) : dueL l0 l1 h0 h1 k0 k1 = [Str.ofString "- " ++ l0, Str.ofString "+ " ++ l1, Str.ofString "? " ++ h1 ++ Str.ofString "\n"] := by rw [due_4 a b c d, tail_f e, tail_t f]; rfl
theorem due_4ff (a : isErr h0 = false) (b : isErr h1 = false) (c : k0 = 0) (d : k1 = 0) (e : (h0 != Str.ofString "") = false) (f : (h1 != Str.ofString "") = false) : dueL l0 l1 h0 h1 k0 k1 = [Str.ofString "- " ++ l0, Str.ofString "+ " ++ l1] := by rw [due_4 a b c d, tail_f e, tail_f f]; rfl
end
abbrev DueRet (s : Shared) (R : Result → Shared → Prop) (ds : List Str) : Prop :=
  ∀ (a : Addr) (h' : Heap) (tk' : Nat) (vs : Array Value) (n : Nat), (∀ b o, s.heap.get? b = some o → h'.get? b = some o) → h'.get? a = some (W.listOf vs n) → s.heap.get? a = none → StrsAre vs.toList ds → R (.ok (.ret (.ref a))) { s with heap := h', toks := tk' }
theorem due_fin {s : Shared} {R : Result → Shared → Prop} {ds ds' : List Str} {L : Addr} {h : Heap} {m : Str → Option Value} {news : List (Addr × Obj)} {a : Addr} {vs : Array Value} {n tk : Nat}
    (hret : DueRet s R ds) (F : Fr s.heap L h m) (N : News s.heap L h news) (hm : (a, W.listOf vs n) ∈ news) (e : ds = ds') (hv : StrsAre vs.toList ds') : R (.ok (.ret (.ref a))) { s with heap := h, toks := tk } :=
  hret a h tk vs n F.keep (N _ hm).1 (N _ hm).2.2 (e ▸ hv)
theorem below_pushC {A : Around} {base h₀ h : Heap} {outer : List Env} {L a : Addr} {m : Str → Option Value} {name : Str} {scope : Scope} {cd : Value}
    (K : Below A base outer h₀) (F : Fr h₀ L h m) (hk : scope.kind = .function) : Below (A.deeper (envOfC name scope L a cd)) base (envOfC name scope L a cd :: outer) h := by
  have hnew : base.get? L = none := by
    cases hq : base.get? L with
    | none => rfl
    | some o => exact absurd (Nat.lt_of_lt_of_le (Heap.lt_size (K.stays L o hq)) F.above) (Nat.lt_irrefl _)
  refine ⟨Around.frames_deeper K.stack, fun b o e => F.keep b o (K.stays b o e), ?_⟩
  exact .cons (by show scope.kind ≠ .module; rw [hk]; decide) rfl F.ns hnew (K.frames.of_keeps fun b o e _ => ⟨o, F.keep b o e, rfl⟩)
theorem sel_le {k : Int} {a b : Str} (ha : a.length ≤ 100) (hb : b.length ≤ 100) : (if k = 0 then a else b).length ≤ 100 := by split <;> assumption
theorem sel_hint {k : Int} {l0 l1 g0 g1 : Str} {k0 k1 : Int} (h0 : (hintF l0 g0 k0).length ≤ 100) (h1 : (hintF l1 g1 k1).length ≤ 100) (hl : 0 ≤ k) (hh : k < 2) :
    (hintF (if k = 0 then l0 else l1) (if k = 0 then g0 else g1) ([k0, k1].getD k.toNat 0)).length ≤ 100 := by
  have e : k = 0 ∨ k = 1 := by omega
  rcases e with rfl | rfl
  · exact h0
  · exact h1
local macro_rules | `(tactic| walk_at "CompSrc") => `(tactic| (k_here; k_dflt (refine LCg.CompSrc.range (by rfl) (by k_asm) (by k_asm) (by assumption) (by first | decide | rfl) (by first | rfl | decide) (by first | size_fits | exact Nat.le_of_ble_eq_true rfl) ?_; intro g'; lcg_lit)))
local macro_rules | `(tactic| walk_at "call ref") => `(tactic| (k_here; (with_reducible show wpAny _ _ (call (Value.ref 324) [Value.str _ _, Value.str _ _, Value.int _ _]) _ _ _); (with_unfolding_all refine' hint_one ?k1 ?k2 ?k3 ?k4 ?k5 ?k6 ?k7 ?_ ?k8); (case k1 => first | assumption | exact sel_le (by assumption) (by assumption)); (case k2 => first | assumption | exact sel_le (by assumption) (by assumption)); (case k3 => exact below_pushC (by assumption) (by assumption) rfl); (case k4 => exact Frag.In.keeps (by assumption) (Fr.keep (by assumption))); (case k5 => exact Top.keeps (by assumption) (Fr.keep (by assumption))); (case k6 => first | assumption | omega); (case k7 => first | omega | ((try dsimp only [Around.deeper]); omega)); (case k8 => first | assumption | exact sel_hint (by assumption) (by assumption) (by omega) (by omega)); k_whole; (intro t9 h9 tk9 hk9 hl9); (have F9 := Fr.keeps (by assumption) hk9); (have N9 := News.keepsAll (by assumption) hk9)))
set_option maxHeartbeats 8000000 in
theorem due_pure (w : World) (mean : ExcName → Option Value) (mg mb : Str → Option Value) (dp un : Nat) (gd : Option (List Code)) (outer : List Env) (A₀ : Around) (base : Heap) (s : Shared) (R : Result → Shared → Prop)
    (a1 a2 a3 : Addr) (l0 l1 g0 g1 : Str) (k0 k1 : Int) (u0 u1 u2 u3 u4 u5 : Tok) (h0 : l0.length ≤ 100) (h1 : l1.length ≤ 100) (h2 : g0.length ≤ 100) (h3 : g1.length ≤ 100)
    (hl1 : s.heap.IsList a1 #[.str l0 u0, .str l1 u1]) (hl2 : s.heap.IsList a2 #[.str g0 u2, .str g1 u3]) (hl3 : s.heap.IsList a3 #[.int k0 u4, .int k1 u5])
    (hh0 : (hintF l0 g0 k0).length ≤ 100) (hh1 : (hintF l1 g1 k1).length ≤ 100)
    (B : Below A₀ base outer s.heap) (X : (K w.params).In s.heap) (T : Top (q pw0) loose0 mean mg mb s.heap) (hd : dp + 2 < recursionLimit) (hu : un + 40 < cLine) (hret : DueRet s R (dueL l0 l1 (hintF l0 g0 k0) (hintF l1 g1 k1) k0 k1)) :
    codeAny (model PySem.Challenge.rw_dm0062_06.row.prog w) (arA dp un gd outer) (.call (.ref 329) ⟨[.ref a1, .ref a2, .ref a3], []⟩) R s := by
  revert X
  k_fill
  intro X
  refine' pure_enterC ?k1 ?k2 ?k3 ?k4 ?k5 ?k6 ?k7 ?k8 ?k9 ?_ ?c1 ?c2 ?c3
  case k1 => exact B
  case k2 => exact X
  case k3 => exact T
  case k4 => k_is
  case k5 => k_is
  case k6 => omega
  case k7 => exact BindsTo.of_eq rfl
  case k8 => exact rfl
  case k9 => decide
  case c1 => exact rfl
  case c2 => exact rfl
  case c3 => exact rfl
  intro L' h₁ tk cells F' N' Y B' X' T'
  clear B X T
  k_cells Y
  show wpAny _ _ (execs (_ :: _) _) _ _ _
  (try k_fold)
  k_steps
  all_goals (show R (Except.ok (Flow.ret (Value.ref _))) _)
  · refine' due_fin hret ?hF ?hN ?hm ?he ?hv
    case hF => assumption
    case hN => assumption
    case hm => k_mem
    case he => exact due_0 (by assumption)
    case hv => exact .cons ⟨_, rfl⟩ .nil
  · refine' due_fin hret ?hF ?hN ?hm ?he ?hv
    case hF => assumption
    case hN => assumption
    case hm => k_mem
    case he => exact due_1 (by assumption) (by assumption)
    case hv => exact .cons ⟨_, rfl⟩ .nil
  · refine' due_fin hret ?hF ?hN ?hm ?he ?hv
    case hF => assumption
    case hN => assumption
    case hm => k_mem
    case he => exact due_2 (by assumption) (by assumption) (by assumption)
    case hv => exact .cons ⟨_, rfl⟩ .nil
  · refine' due_fin hret ?hF ?hN ?hm ?he ?hv
    case hF => assumption
    case hN => assumption
    case hm => k_mem
    case he => exact due_3t (by assumption) (by assumption) (by assumption) (by assumption) (by assumption)
    case hv => exact .cons ⟨_, rfl⟩ (.cons ⟨_, rfl⟩ (.cons ⟨_, rfl⟩ .nil))
  · refine' due_fin hret ?hF ?hN ?hm ?he ?hv
    case hF => assumption
    case hN => assumption
    case hm => k_mem
    case he => exact due_4tt (by assumption) (by assumption) (by assumption) (by assumption) (by assumption) (by assumption)
    case hv => exact .cons ⟨_, rfl⟩ (.cons ⟨_, rfl⟩ (.cons ⟨_, rfl⟩ (.cons ⟨_, rfl⟩ .nil)))
  · refine' due_fin hret ?hF ?hN ?hm ?he ?hv
    case hF => assumption
    case hN => assumption
    case hm => k_mem
    case he => exact due_4tf (by assumption) (by assumption) (by assumption) (by assumption) (by assumption) (by assumption)
    case hv => exact .cons ⟨_, rfl⟩ (.cons ⟨_, rfl⟩ (.cons ⟨_, rfl⟩ .nil))
  · refine' due_fin hret ?hF ?hN ?hm ?he ?hv
    case hF => assumption
    case hN => assumption
    case hm => k_mem
    case he => exact due_3f (by assumption) (by assumption) (by assumption) (by assumption) (by assumption)
    case hv => exact .cons ⟨_, rfl⟩ (.cons ⟨_, rfl⟩ .nil)
  · refine' due_fin hret ?hF ?hN ?hm ?he ?hv
    case hF => assumption
    case hN => assumption
    case hm => k_mem
    case he => exact due_4ft (by assumption) (by assumption) (by assumption) (by assumption) (by assumption) (by assumption)
    case hv => exact .cons ⟨_, rfl⟩ (.cons ⟨_, rfl⟩ (.cons ⟨_, rfl⟩ .nil))
  · refine' due_fin hret ?hF ?hN ?hm ?he ?hv
    case hF => assumption
    case hN => assumption
    case hm => k_mem
    case he => exact due_4ff (by assumption) (by assumption) (by assumption) (by assumption) (by assumption) (by assumption)
    case hv => exact .cons ⟨_, rfl⟩ (.cons ⟨_, rfl⟩ .nil)
end Mine

end
section -- GenX
open PySem PySem.W PyProof.Rows PySem.Calls
set_option Elab.async false
set_option maxRecDepth 100000
namespace Mine
section
variable {prog : Program} {w : World} {A : Around} {E : Value → Shared → Prop} {s : Shared}
/-- an exception that is no StopIteration -/
def NoStop (s : Shared) (e : Value) : Prop := ∀ (A : Around) (Q : Bool → Shared → Prop) (E : Value → Shared → Prop), Q false s → wpAny (model prog w) A (isInstance e (.type "StopIteration")) Q E s
theorem pyNext_genX {a : Addr} {g n : Nat} {gs : GenState} {R : GenEnd} {Y : Protocol} {Q : Option Value → Shared → Prop} (hh : A.handled = none)
    (hl : s.heap.NoLimit) (hroom : A.depth < recursionLimit) (hg : s.heap.IsGen a g) (hgs : s.gens[g]? = some gs)
    (hgo : gs.Goes (model prog w) A.in1 R Y n (.send .none) (s.setGen g .running))
    (hY : ∀ v s₁ gs', gs'.bare = true → Y (n - 1) (s.setGen g .running) v s₁ (fun r' s'' => match n with
        | 0 => False
        | m + 1 => gs'.Goes (model prog w) A.in1 R Y m r' s'') → Q (some v) (s₁.setGen g gs'))
    (hR : ∀ r s₁, R n (s.setGen g .running) r s₁ → ((r = .ok (.ret .none) ∨ r = .ok .next) ∧ ∀ h', (∀ b o, s₁.heap.get? b = some o → h'.get? b = some o) → Q none { s₁.setGen g .finished with heap := h' }) ∨
      ∃ e, r = .error e ∧ s₁.heap.IsGen a g ∧ NoStop (prog := prog) (w := w) (s₁.setGen g .finished) e ∧ E e (s₁.setGen g .finished)) :
    wpAny (model prog w) A (pyNext (.ref a)) Q E s := by
  unfold pyNext
  refine wpAny_bind (wpAny_attempt (wpAny_callSpecial?_slot (name := Str.ofString "__next__") hg.typeIs slot_gen_next
    (wpAny_call_entry slot_gen_next hg.typeIs entry_gen_next ?_ (args_gen_next _))))
  show wpAny _ _ (Builtin.Generator.genWake (.ref a) (.send .none)) _ _ s
  unfold Builtin.Generator.genWake
  refine wpAny_bind (wpAny_holding (wpAny_genNumber hg (wpAny_bind (wpAny_genState hgs ?_))))
  cases gs with
  | running => exact hgo.elim
  | finished => exact hgo.elim
  | _ =>
    refine wpAny_bind (wpAny_roomToWake hl hroom ?_)
    show wpAny _ _ (.resume g (.send .none) [] _) _ _ s
    refine wpAny_resumeQ hgs hgo (fun x s₁ hx => ?_) (fun v s₁ gs' hb hv => ?_)
    · rcases hR x s₁ hx with ⟨rfl | rfl, hp⟩ | ⟨e, rfl, hgen, hns, hE⟩
      · show wpAny _ _ (newExc (.type "StopIteration") [] >>= _) _ _ _
        refine wpAny_bind ?_
        simp only [newExc, newTuple]
        refine wpAny_bind (wpAny_newObj_type ?_ (by size_fits))
        refine wpAny_bind (m := firstArgMember _ _) (wpAny_of_eq (a := Value.none) (by first | rfl | (simp only [firstArgMember]; rfl)) ?_)
        refine wpAny_newObj_type ?_ (by size_fits)
        simp only [raiseNew]
        refine wpAny_bind (wpAny_bind (wpAny_handled ?_))
        rw [show A.in1.handled = none from hh]
        refine wpAny_throw ?_
        refine wpAny_bind (wpAny_isInstance (T := "StopIteration") (b := true) ⟨_, Heap.get?_push_size _ rfl, rfl⟩ isSubtype_stop ?_)
        exact wpAny_pure (hp _ fun b o hb => Heap.get?_push_of_some _ (Heap.get?_push_of_some _ hb))
      · show wpAny _ _ (newExc (.type "StopIteration") [] >>= _) _ _ _
        refine wpAny_bind ?_
        simp only [newExc, newTuple]
        refine wpAny_bind (wpAny_newObj_type ?_ (by size_fits))
        refine wpAny_bind (m := firstArgMember _ _) (wpAny_of_eq (a := Value.none) (by first | rfl | (simp only [firstArgMember]; rfl)) ?_)
        refine wpAny_newObj_type ?_ (by size_fits)
        simp only [raiseNew]
        refine wpAny_bind (wpAny_bind (wpAny_handled ?_))
        rw [show A.in1.handled = none from hh]
        refine wpAny_throw ?_
        refine wpAny_bind (wpAny_isInstance (T := "StopIteration") (b := true) ⟨_, Heap.get?_push_size _ rfl, rfl⟩ isSubtype_stop ?_)
        exact wpAny_pure (hp _ fun b o hb => Heap.get?_push_of_some _ (Heap.get?_push_of_some _ hb))
      · obtain ⟨o, nm, qn, ho, hc, hd, hsl⟩ := hgen
        show wpAny _ _ (Builtin.Generator.genLeft (.ref a) e) _ _ _
        unfold Builtin.Generator.genLeft Builtin.Generator.madeByALambda
        refine wpAny_bind (wpAny_bind (wpAny_load (show (s₁.setGen g .finished).heap.get? a = some o from ho) ?_))
        rw [hc, hd]
        refine wpAny_pure (wpAny_bind (hns _ _ _ ?_))
        show wpAny _ _ (Builtin.Generator.genEscaped e) _ _ _
        unfold Builtin.Generator.genEscaped
        refine wpAny_bind (hns _ _ _ ?_)
        show wpAny _ _ (throw e >>= _) _ _ _
        refine wpAny_bind (wpAny_throw ?_)
        refine wpAny_bind (hns _ _ _ ?_)
        exact wpAny_throw hE
    · exact wpAny_pure ⟨v, rfl, wpAny_pure (hY v s₁ gs' hb hv)⟩
end
end Mine

end
section -- GenY
open PySem PySem.W PyProof.Rows PySem.Calls
set_option Elab.async false
set_option maxRecDepth 100000
namespace Mine
section
variable {M : Model} {A : Around} {R : GenEnd} {Y : Protocol} {n : Nat} {s₀ : Shared} {c : Code} {fs : List Frame} {s : Shared} {env : Env}
  {K : Flow → Sem Fin} {H : Value → Sem Fin} {gd : Bool → Bool} {lv : List Value → List Value}
/-- a statement that does not yield -/
theorem seg_plain {st : Stmt} {rest : List Stmt}
    (h : wpAny M (A.over c fs) (exec st env) (fun f s' => match f with | .next => Seg M A R Y n s₀ c ((execs rest env).wrap K H gd lv) fs s' | f => Seg M A R Y n s₀ c (K f) fs s')
      (fun x s' => Seg M A R Y n s₀ c (H x) fs s') s) : Seg M A R Y n s₀ c ((execs (st :: rest) env).wrap K H gd lv) fs s :=
  seg_execs_cons (seg_wrap (wpAny_mono h (fun f s' x => by cases f <;> exact x) fun _ _ x => x))
/-- an if whose branches may yield -/
theorem seg_If {test : Expr} {body orelse rest : List Stmt} {pos : Pos}
    (h : wpAny M (A.over c fs) (isTrue test env (eval test env)) (fun b s' =>
        Seg M A R Y n s₀ c ((execs (if b = true then body else orelse) env).wrap (fun f => match f with | .next => (execs rest env).wrap K H gd lv | f => K f) H gd lv) fs s')
      (fun x s' => Seg M A R Y n s₀ c (H x) fs s') s) : Seg M A R Y n s₀ c ((execs (.If test body orelse pos :: rest) env).wrap K H gd lv) fs s := by
  refine seg_execs_cons ?_
  have e : exec (.If test body orelse pos) env = (standAt pos >>= fun _ => isTrue test env (eval test env) >>= fun b => if b = true then execs body env else execs orelse env) := by
    first | exact arm_exec_If .. | rfl
  rw [e]
  refine seg_at ?_
  show Seg M A R Y n s₀ c ((isTrue test env (eval test env) >>= fun b => if b = true then execs body env else execs orelse env).wrap _ H gd lv) fs s
  rw [Sem.bind_eq_wrap', Sem.wrap_wrap]
  refine seg_wrap (wpAny_mono h (fun b s' hb => ?_) fun _ _ x => x)
  cases b <;> exact hb
end
end Mine

end
section -- Fly
open PySem PySem.W PyProof.Rows PySem.Calls
set_option Elab.async false
set_option maxRecDepth 100000
namespace Mine
/-- kept but for the code table of _keep_original_ws -/
def KeepT (h h' : Heap) : Prop := ∀ b o, b ≠ 248 → h.get? b = some o → h'.get? b = some o
theorem KeepT.refl (h : Heap) : KeepT h h := fun _ _ _ e => e
theorem KeepT.trans {a b c : Heap} (x : KeepT a b) (y : KeepT b c) : KeepT a c := fun d o n e => y d o n (x d o n e)
theorem KeepT.of {a b : Heap} (x : ∀ c o, a.get? c = some o → b.get? c = some o) : KeepT a b := fun d o _ e => x d o e
theorem KeepT.of_ext {a b : Heap} (x : Heap.ExtBut 248 a b) : KeepT a b := fun d o n e => x d o n e
def HasTab (h : Heap) : Prop := ∃ ps : Array Value, TriplesOk ps.toList ∧ h.get? 248 = some (tabObj ps)
theorem HasTab.keeps {h h' : Heap} (x : HasTab h) (k : ∀ b o, h.get? b = some o → h'.get? b = some o) : HasTab h' := let ⟨ps, a, b⟩ := x; ⟨ps, a, k _ _ b⟩
def frs (l : List Env) : List Addr := l.filterMap (·.frame)
/-- the exception e of the class cls flies on, to the frames l; g's objects stand -/
structure Fly (g : Heap) (l : List Env) (e : Addr) (cls : String) (h : Heap) : Prop where
  flies : ∃ B a0, (∀ b o, b ≠ 248 → b ∉ frs l → g.get? b = some o → B.get? b = some o) ∧ HasTab B ∧ Heap.FlyingW B l e (.type cls) a0 h
  up : g.UpToSlots h
theorem Fly.tab {g h : Heap} {l : List Env} {e : Addr} {cls : String} (x : Fly g l e cls h) : HasTab h :=
  let ⟨_, _, _, ht, hf⟩ := x.flies
  ht.keeps hf.1
theorem Fly.there {g h : Heap} {l : List Env} {e : Addr} {cls : String} (x : Fly g l e cls h) : ∃ ob, h.get? e = some ob ∧ ob.cls = .type cls :=
  let ⟨_, _, _, _, hf⟩ := x.flies
  hf.there
theorem Fly.keep {g h : Heap} {l : List Env} {e : Addr} {cls : String} (x : Fly g l e cls h) : ∀ b o, b ≠ 248 → b ∉ frs l → g.get? b = some o → h.get? b = some o :=
  let ⟨_, _, hk, _, hf⟩ := x.flies
  fun b o n m q => hf.1 b o (hk b o n m q)
/-- a state that differs in what no one asks -/
theorem Fly.weaken {g g' h : Heap} {l : List Env} {e : Addr} {cls : String} (x : Fly g l e cls h) (k : ∀ b o, g'.get? b = some o → g.get? b = some o) : Fly g' l e cls h :=
  let ⟨B, a0, hk, ht, hf⟩ := x.flies
  ⟨⟨B, a0, fun b o n m q => hk b o n m (k b o q), ht, hf⟩, fun b o q => x.up b o (k b o q)⟩
def NoFields (g : Heap) : Prop := ∀ o, g.get? 248 = some o → ∃ vs, o.data = .fields vs
theorem HasTab.noFields {h : Heap} (x : HasTab h) : NoFields h := fun o e => by
  obtain ⟨ps, _, q⟩ := x
  rw [q] at e; cases e; exact ⟨_, rfl⟩
theorem frs_mem {h base : Heap} {l : List Env} (hl : h.FunFrames base l) {b : Addr} (hb : b ∈ frs l) : base.get? b = none ∧ ∃ o, h.get? b = some o ∧ ∀ vs, o.data ≠ .fields vs := hl.mem hb
theorem tab_apart {h base : Heap} {l : List Env} (hl : h.FunFrames base l) (ht : HasTab h) : 248 ∉ frs l := fun hm => by
  obtain ⟨ps, _, q⟩ := ht
  obtain ⟨_, o, ho, hd⟩ := frs_mem hl hm
  rw [q] at ho; cases ho
  exact hd _ rfl
section
variable {M : Model} {A : Around} {E : Value → Shared → Prop} {s : Shared} {base g g₂ : Heap} {env : Env} {outer : List Env} {L e : Addr} {Q : Unit → Shared → Prop} {cls : String}
theorem leave_first {oe : Obj} {vs : Array Value} {a0 : Value} (hfr : A.frames = some (env :: outer)) (hf : env.frame = some L) (hl : s.heap.FunFrames base (env :: outer)) (ht : HasTab s.heap)
    (he : s.heap.get? e = some oe) (hc : oe.cls = .type cls) (hd : oe.data = .fields vs) (h1 : vs[1]? = some .none) (h0 : vs[0]? = some a0)
    (hgL : g.get? L = none) (hge : g.get? e = none) (hk : KeepT g s.heap) (hn : NoFields g)
    (hQ : ∀ h', Fly g outer e cls h' → Q () { s with heap := h' }) : wpAny M A (leaving env (.ref e)) Q E s := by
  have hin : ∀ v ∈ (env :: outer), ∀ b, v.frame = some b → b ∈ e :: frs (env :: outer) := fun v hv b hb => .tail _ (List.mem_filterMap.mpr ⟨v, hv, hb⟩)
  have hl2 := funFrames_hide hl hin
  have hen : (hideAll s.heap (e :: frs (env :: outer))).get? e = none := hideAll_none _ (.head _)
  have e248 : (248 : Addr) ≠ e := fun q => by
    obtain ⟨ps, _, q2⟩ := ht
    rw [q, he] at q2; cases q2; cases hc
  have ht2 : HasTab (hideAll s.heap (e :: frs (env :: outer))) := by
    obtain ⟨ps, a, q2⟩ := ht
    exact ⟨ps, a, hideAll_get _ q2 fun hm => (List.mem_cons.mp hm).elim e248 (tab_apart hl ⟨ps, a, q2⟩)⟩
  refine wpAny_leaving_firstW hfr hl2 hf he (fun b o q => of_hideAll _ q) hen hd h1 h0 fun h' hL => ?_
  obtain ⟨k1, ⟨_, _, k2⟩, k3, k4⟩ := hL
  refine hQ h' ⟨⟨_, a0, fun b o n m q => hideAll_get _ (hk b o n q) fun hm => ?_, ht2, k1, hen, k2, by rw [← hc]; exact k3⟩, fun b o q nf => ?_⟩
  · rcases List.mem_cons.mp hm with rfl | hm
    · rw [hge] at q; cases q
    · rcases List.mem_filterMap.mp hm with ⟨v, hv, hb⟩
      rcases List.mem_cons.mp hv with rfl | hv
      · rw [hf] at hb; cases hb; rw [hgL] at q; cases q
      · exact m (List.mem_filterMap.mpr ⟨v, hv, hb⟩)
  · by_cases n : b = 248
    · subst n; obtain ⟨vs', q2⟩ := hn o q; exact absurd q2 (nf _)
    · exact k4 b o (hk b o n q) nf
theorem leave_on (hfr : A.frames = some (env :: outer)) (hf : env.frame = some L) (R : Fly g₂ (env :: outer) e cls s.heap) (hgL : g.get? L = none) (hk : KeepT g g₂) (hn : NoFields g)
    (hQ : ∀ h', Fly g outer e cls h' → Q () { s with heap := h' }) : wpAny M A (leaving env (.ref e)) Q E s := by
  obtain ⟨B, a0, hB, ht, hfl⟩ := R.flies
  refine wpAny_leaves_onW hfr hf hfl fun h' x1 x2 => hQ h' ⟨⟨B, a0, fun b o n m q => hB b o n (fun hm => ?_) (hk b o n q), ht, x1⟩, fun b o q nf => ?_⟩
  · rcases List.mem_filterMap.mp hm with ⟨v, hv, hb⟩
    rcases List.mem_cons.mp hv with rfl | hv
    · rw [hf] at hb; cases hb; rw [hgL] at q; cases q
    · exact m (List.mem_filterMap.mpr ⟨v, hv, hb⟩)
  · by_cases n : b = 248
    · subst n; obtain ⟨vs', q2⟩ := hn o q; exact absurd q2 (nf _)
    · exact (R.up.trans x2) b o (hk b o n q) nf
end
/-- at the frame that catches -/
theorem Fly.raised {g h h₀ : Heap} {env : Env} {e L : Addr} {cls : String} {m : Str → Option Value} {news : List (Addr × Obj)} (x : Fly g [env] e cls h) (hf : env.frame = some L) (F : Fr h₀ L g m) (N : News h₀ L g news) (h248 : h₀.get? 248 = none) (hP : ∀ q ∈ news, q.1 ≠ 248) :
    ∃ ps : Array Value, TriplesOk ps.toList ∧ RaisedN h₀ [env] e (.type cls) ((248, tabObj ps) :: news) h := by
  obtain ⟨B, a0, hk, ⟨ps, hps, ht⟩, hfl⟩ := x.flies
  have fm : frs [env] = [L] := by unfold frs; simp [hf]
  have hL0 : h₀.get? L = none := Heap.get?_none_of_le F.above
  refine ⟨ps, hps, B, a0, fun b o q => hk b o (fun n => by rw [n, h248] at q; cases q) (fun n => ?_) (F.keep b o q), fun q hq => ?_, hfl⟩
  · rw [fm] at n; rw [List.mem_singleton.mp n, hL0] at q; cases q
  · rcases List.mem_cons.mp hq with rfl | hq
    · exact ⟨ht, h248⟩
    · exact ⟨hk _ _ (hP q hq) (fun n => (N q hq).2.1 (by rw [fm] at n; exact List.mem_singleton.mp n)) (N q hq).1, (N q hq).2.2⟩
end Mine

end
section -- GExp
open PySem PySem.W PyProof.Rows PySem.Calls
set_option Elab.async false
set_option maxRecDepth 100000
namespace Mine
/-- a new exception, just raised -/
structure NewX (h h' : Heap) (e : Addr) (cls : String) : Prop where
  keeps : ∀ b o, h.get? b = some o → h'.get? b = some o
  new : h.get? e = none
  there : ∃ ob vs a0, h'.get? e = some ob ∧ ob.cls = .type cls ∧ ob.data = .fields vs ∧ vs[1]? = some .none ∧ vs[0]? = some a0
theorem NewX.of {h h' : Heap} {e : Addr} {cls : String} (x : Heap.NewExc h h' e cls) : NewX h h' e cls :=
  ⟨x.keeps, x.new, let ⟨ob, t, a, b, c⟩ := x.there; ⟨ob, _, t, a, b, c, rfl, rfl⟩⟩
theorem NewX.ofAttr {h h' : Heap} {e : Addr} {o : Value} {name : Str} (x : Heap.NewAttrErr h h' e o name) : NewX h h' e "AttributeError" :=
  ⟨x.keeps, x.new, let ⟨t, _, a⟩ := x.there; ⟨_, _, t, a, rfl, rfl, rfl, rfl⟩⟩
section
variable {prog : Program} {w : World} {A : Around}
/-- the element of a generator expression over pairs: cnt items, then the end or an exception -/
structure ElX (prog : Program) (w : World) (cenv : Env) (xa xb : Str) (elt : Expr) (n₀ cnt : Nat) (Pt : Nat → Array Value → Prop) (F : Nat → Value → Prop) (cls : String) : Prop where
  item : ∀ (A' : Around) E' i va vb (s₂ : Shared) m₂, A'.handled = none → i < cnt → Pt i #[va, vb] → s₂.heap.Ns cenv.locals m₂ → m₂ xa = some va → m₂ xb = some vb →
    wpAny (model prog w) A' (eval elt cenv) (fun y s₃ => F i y ∧ Keeps s₂ s₃) E' s₂
  bad : ∀ (A' : Around) Q' va vb (s₂ : Shared) m₂, A'.handled = none → cnt < n₀ → Pt cnt #[va, vb] → s₂.heap.Ns cenv.locals m₂ → m₂ xa = some va → m₂ xb = some vb →
    wpAny (model prog w) A' (eval elt cenv) Q' (fun v s₃ => ∃ e h' tk, v = .ref e ∧ s₃ = { s₂ with heap := h', toks := tk } ∧ NewX s₂.heap h' e cls) s₂
def gxProto (C : Addr) (fp wr : List Addr) (cnt : Nat) (F : Nat → Value → Prop) : Protocol := fun m s₀ v s kap =>
  F (cnt - 1 - m) v ∧ GenSince C wr s₀ s ∧ ∀ s'' : Shared, (∀ b ∈ C :: fp, ∀ o, s.heap.get? b = some o → s''.heap.get? b = some o) → kap (.send .none) s''
def gxEnd (C : Addr) (wr : List Addr) (n₀ cnt : Nat) (g : Heap) (outer : List Env) (cls : String) : GenEnd := fun n s₀ r s₁ =>
  n = 0 ∧ ((cnt = n₀ ∧ r = .ok .next ∧ GenSince C wr s₀ s₁) ∨ (cnt < n₀ ∧ ∃ e h' tk, r = .error (.ref e) ∧ s₁ = { s₀ with heap := h', toks := tk } ∧ Fly g outer e cls h'))
variable {elt iter : Expr} {xa xb : Str} {pa pb pt : Pos} {kt : Nat} {scope : Scope} {pos : Pos} {I : Addr} {fp wr : List Addr} {n₀ cnt : Nat} {Pt : Nat → Array Value → Prop} {St₀ : Nat → Heap → Prop} {Mid : Nat → Addr → Heap → Prop} {cenv : Env} {F : Nat → Value → Prop} {cls : String} {h4 base : Heap} {outer : List Env}
theorem seg_gx (hh : A.handled = none) (hfr : A.frames = some outer) (W₀ : ∀ A' : Around, A'.handled = none → WalksU prog w A' I fp wr n₀ Pt St₀ Mid) (hsz : ∀ i vals, Pt i vals → ∃ va vb, vals = #[va, vb]) (hab : xa ≠ xb)
    (hxa : cenv.kindOf xa = some .local) (hxb : cenv.kindOf xb = some .local) (hkind : cenv.scope.kind = .function) (hcf : cenv.frame = some cenv.locals)
    (hco : cenv.scope.isCoroutine = false) (hCf : cenv.locals ∉ fp) (hcn : cnt ≤ n₀) (hq : ElX prog w cenv xa xb elt n₀ cnt Pt F cls)
    (h4f : h4.FunFrames base outer) (h4w : ∀ b ∈ frs outer, b ∉ wr) (h4t : HasTab h4) (t4w : 248 ∉ wr) (h4C : h4.get? cenv.locals = none) (h4p : ∀ b o, h4.get? b = some o → b ∈ fp) :
    ∀ (k i : Nat) (s₀ s : Shared) (m : Str → Option Value), cnt - i = k → i ≤ cnt → St₀ i s.heap → s.heap.Ns cenv.locals m → GenSince cenv.locals wr s₀ s →
      (∀ b o, b ∉ wr → h4.get? b = some o → s.heap.get? b = some o) →
      Seg (model prog w) A (gxEnd cenv.locals wr n₀ cnt (hideAll h4 wr) outer cls) (gxProto cenv.locals fp wr cnt F) k s₀
        (.compLoop (.GeneratorExp elt [⟨.Tuple [.Name xa pa, .Name xb pb] kt pt, iter, [], 0⟩] scope pos) 0 (.ref I) .none cenv)
        ((model prog w).den (.compLoop (.GeneratorExp elt [⟨.Tuple [.Name xa pa, .Name xb pb] kt pt, iter, [], 0⟩] scope pos) 0 (.ref I) .none cenv)) [] s := by
  have hp : (cenv.scope.kind == .class || (cenv.scope.kind == .module && cenv.locals != cenv.globals)) = false := by rw [hkind]; rfl
  have hh' : (A.over (.compLoop (.GeneratorExp elt [⟨.Tuple [.Name xa pa, .Name xb pb] kt pt, iter, [], 0⟩] scope pos) 0 (.ref I) .none cenv) []).handled = none := hh
  have hfr' : (A.over (.compLoop (.GeneratorExp elt [⟨.Tuple [.Name xa pa, .Name xb pb] kt pt, iter, [], 0⟩] scope pos) 0 (.ref I) .none cenv) []).frames = some (cenv :: outer) := by
    have e1 : pushEnvs [cenv] (pushEnvs [] (some outer)) = some (cenv :: outer) := rfl
    rw [← hfr] at e1
    exact e1
  have hCw : cenv.locals ∉ wr := fun h => hCf ((W₀ A hh).sub _ h)
  intro k
  induction k with
  | zero =>
    intro i s₀ s m hk hi hst hn hsince hkp
    have hin : i = cnt := by omega
    subst hin
    show Seg _ A _ _ _ s₀ _ ((compTurn (.GeneratorExp elt [⟨.Tuple [.Name xa pa, .Name xb pb] kt pt, iter, [], 0⟩] scope pos) 0 (.ref I) .none cenv).onRaise (leaving cenv)) [] s
    rw [compTurn_gen, Sem.onRaise_eq_wrap]
    refine seg_bind_wrap (wpAny_standAt ?_)
    rcases Nat.lt_or_eq_of_le hcn with hlt | heq
    · refine seg_bind_wrap ((W₀ _ hh').item i s _ _ hlt hst fun T vals h₁ tk₁ hPv hT₁ hmid hk₁ => ?_)
      obtain ⟨va, vb, rfl⟩ := hsz i vals hPv
      refine seg_bind_wrap ((W₀ _ hh').go _ _ _ i T _ _ _ hmid fun h₁' hst₁ hk₁' => ?_)
      have hT₁' : h₁'.IsTuple T #[va, vb] := let ⟨o, e, r⟩ := hT₁; ⟨o, hk₁' _ o ((W₀ _ hh').apart i T _ hmid) e, r⟩
      refine seg_bind_wrap (wpAny_assign_Tuple hh' hT₁' rfl rfl fun h₁'' hx₁ => ?_)
      replace hx₁ : Heap.ExtBut h₁'.objs.size h₁' h₁'' := hx₁
      have old₁ : ∀ b o, h₁'.get? b = some o → h₁''.get? b = some o := fun b o e => hx₁ b o (Nat.ne_of_lt (Heap.lt_size e)) e
      show wpAny _ _ (do holding [vb] (assign (.Name xa pa) cenv va); do holding [] (assign (.Name xb pb) cenv vb); pure ()) _ _ _
      refine wpAny_bind (wpAny_holding (wpAny_assign_Name (wpAny_storeName_local hxa (hn.at' fun o e => old₁ _ o (hk₁' _ o hCw (hk₁ _ o hCw e))) (fun h₂a hn₂a hs₂a => ?_) hp)))
      replace hs₂a : Heap.SameBut cenv.locals h₁'' h₂a := hs₂a
      refine wpAny_bind (wpAny_holding (wpAny_assign_Name (wpAny_storeName_local hxb hn₂a (fun h₂ hn₂ hs₂ => wpAny_pure ?_) hp)))
      replace hs₂ : Heap.SameBut cenv.locals h₂a h₂ := hs₂
      have up₂ : ∀ b o, b ≠ cenv.locals → b ∉ wr → s.heap.get? b = some o → h₂.get? b = some o := fun b o hbC hbw e => hs₂.extBut b o hbC (hs₂a.extBut b o hbC (old₁ b o (hk₁' b o hbw (hk₁ b o hbw e))))
      have old4 : ∀ b o, b ∉ wr → h4.get? b = some o → h₂.get? b = some o := fun b o hbw e => up₂ b o (fun q => by rw [q, h4C] at e; cases e) hbw (hkp b o hbw e)
      refine seg_bind_wrap (wpAny_pure ?_)
      simp only [if_true]
      have hy : ∀ v, yieldOut cenv v = yieldValue v := fun v => by simp only [yieldOut, hco, Bool.false_eq_true, if_false]
      simp only [hy]
      rw [Sem.bind_eq_wrap', Sem.bind_eq_wrap', Sem.wrap_wrap, Sem.wrap_wrap]
      refine seg_wrap (wpAny_mono (hq.bad _ (fun _ _ => False) va vb _ _ hh' hlt hPv hn₂ (by simp [hab]) (by simp)) (fun _ _ e => e.elim) fun v s₄ h₄ => ?_)
      obtain ⟨e, h', tk, rfl, rfl, hx⟩ := h₄
      obtain ⟨ob, vs, a0, he, hc, hd, v1, v0⟩ := hx.there
      have old5 : ∀ b o, b ∉ wr → h4.get? b = some o → h'.get? b = some o := fun b o hbw q => hx.keeps b o (old4 b o hbw q)
      show Seg _ A _ _ _ s₀ _ ((leaving cenv (.ref e)).bind fun _ => .raise (.ref e)) [] _
      rw [Sem.bind_eq_wrap]
      have hn₅ := hn₂.keeps hx.keeps
      have fo : h'.FunFrames (hideAll h4 (cenv.locals :: frs outer)) outer := by
        have x1 := funFrames_hide (as := cenv.locals :: frs outer) h4f (fun v hv b hb => .tail _ (List.mem_filterMap.mpr ⟨v, hv, hb⟩))
        have x2 : ∀ {l : List Env}, (∀ b ∈ frs l, b ∉ wr) → h4.FunFrames (hideAll h4 (cenv.locals :: frs outer)) l → h'.FunFrames (hideAll h4 (cenv.locals :: frs outer)) l := by
          intro l
          induction l with
          | nil => exact fun _ _ => trivial
          | cons env rest ih =>
            rintro hw ⟨hk, ⟨L, o, hf, hn, ho, hd⟩, hr⟩
            have hm : L ∈ frs (env :: rest) := by unfold frs; rw [List.filterMap_cons, hf]; exact .head _
            refine ⟨hk, ⟨L, o, hf, hn, old5 L o (hw L hm) ho, hd⟩, ih (fun b hb => hw b ?_) hr⟩
            unfold frs; rw [List.filterMap_cons, hf]; exact .tail _ hb
        exact x2 h4w x1
      have fo2 := Heap.FunFrames.cons (env := cenv) (by rw [hkind]; decide) hcf hn₅ (hideAll_none _ (.head _)) fo
      have ht5 : HasTab h' := by obtain ⟨ps, a, q⟩ := h4t; exact ⟨ps, a, old5 _ _ t4w q⟩
      have nw : ∀ b o, (hideAll h4 wr).get? b = some o → b ∉ wr ∧ h4.get? b = some o := fun b o q => ⟨fun hm => (by rw [hideAll_none _ hm] at q; cases q), of_hideAll _ q⟩
      refine seg_wrap (leave_first (g := hideAll h4 wr) hfr' hcf fo2 ht5 he hc hd v1 v0 ?_ ?_ (fun b o _ q => old5 b o (nw b o q).1 (nw b o q).2) ?_ fun h'' fl => ?_)
      · cases q : (hideAll h4 wr).get? cenv.locals with
        | none => rfl
        | some o => have := (nw _ _ q).2; rw [h4C] at this; cases this
      · cases q : (hideAll h4 wr).get? e with
        | none => rfl
        | some o =>
          have q1 := old4 e o (nw _ _ q).1 (nw _ _ q).2
          have q2 := hx.new
          rw [q1] at q2; cases q2
      · intro o q
        obtain ⟨ps, a, q2⟩ := h4t
        rw [(nw _ _ q).2] at q2; cases q2; exact ⟨_, rfl⟩
      · obtain ⟨h₁, tk₁, rfl, _⟩ := hsince
        exact seg_end (.error (.ref e)) ⟨rfl, .inr ⟨hlt, e, h'', _, rfl, rfl, fl⟩⟩
    · subst heq
      refine seg_bind_wrap ((W₀ _ hh').done s _ _ hst fun h' tk hk' => ?_)
      exact seg_end (.ok .next) ⟨rfl, .inl ⟨rfl, rfl, hsince.step fun b o _ hw e => hk' b o hw e⟩⟩
  | succ k ih =>
    intro i s₀ s m hk hi hst hn hsince hkp
    have hlt : i < cnt := by omega
    show Seg _ A _ _ _ s₀ _ ((compTurn (.GeneratorExp elt [⟨.Tuple [.Name xa pa, .Name xb pb] kt pt, iter, [], 0⟩] scope pos) 0 (.ref I) .none cenv).onRaise (leaving cenv)) [] s
    rw [compTurn_gen, Sem.onRaise_eq_wrap]
    refine seg_bind_wrap (wpAny_standAt ?_)
    refine seg_bind_wrap ((W₀ _ hh').item i s _ _ (by omega) hst fun T vals h₁ tk₁ hPv hT₁ hmid hk₁ => ?_)
    obtain ⟨va, vb, rfl⟩ := hsz i vals hPv
    refine seg_bind_wrap ((W₀ _ hh').go _ _ _ i T _ _ _ hmid fun h₁' hst₁ hk₁' => ?_)
    have hT₁' : h₁'.IsTuple T #[va, vb] := let ⟨o, e, r⟩ := hT₁; ⟨o, hk₁' _ o ((W₀ _ hh').apart i T _ hmid) e, r⟩
    refine seg_bind_wrap (wpAny_assign_Tuple hh' hT₁' rfl rfl fun h₁'' hx₁ => ?_)
    replace hx₁ : Heap.ExtBut h₁'.objs.size h₁' h₁'' := hx₁
    have old₁ : ∀ b o, h₁'.get? b = some o → h₁''.get? b = some o := fun b o e => hx₁ b o (Nat.ne_of_lt (Heap.lt_size e)) e
    show wpAny _ _ (do holding [vb] (assign (.Name xa pa) cenv va); do holding [] (assign (.Name xb pb) cenv vb); pure ()) _ _ _
    refine wpAny_bind (wpAny_holding (wpAny_assign_Name (wpAny_storeName_local hxa (hn.at' fun o e => old₁ _ o (hk₁' _ o hCw (hk₁ _ o hCw e))) (fun h₂a hn₂a hs₂a => ?_) hp)))
    replace hs₂a : Heap.SameBut cenv.locals h₁'' h₂a := hs₂a
    refine wpAny_bind (wpAny_holding (wpAny_assign_Name (wpAny_storeName_local hxb hn₂a (fun h₂ hn₂ hs₂ => wpAny_pure ?_) hp)))
    replace hs₂ : Heap.SameBut cenv.locals h₂a h₂ := hs₂
    have up₂ : ∀ b o, b ≠ cenv.locals → b ∉ wr → s.heap.get? b = some o → h₂.get? b = some o := fun b o hbC hbw e => hs₂.extBut b o hbC (hs₂a.extBut b o hbC (old₁ b o (hk₁' b o hbw (hk₁ b o hbw e))))
    have hst₂ : St₀ (i + 1) h₂ := (W₀ A hh).frame _ _ _ hst₁ fun b hb o e => hs₂.extBut b o (fun h => hCf (h ▸ hb)) (hs₂a.extBut b o (fun h => hCf (h ▸ hb)) (old₁ b o e))
    have old4 : ∀ b o, b ∉ wr → h4.get? b = some o → h₂.get? b = some o := fun b o hbw e => up₂ b o (fun q => by rw [q, h4C] at e; cases e) hbw (hkp b o hbw e)
    have hsince₃ : GenSince cenv.locals wr s₀ { s with heap := h₂, toks := tk₁ } := hsince.step fun b o hbC hbw e => up₂ b o hbC hbw e
    refine seg_bind_wrap (wpAny_pure ?_)
    simp only [if_true]
    have hy : ∀ v, yieldOut cenv v = yieldValue v := fun v => by simp only [yieldOut, hco, Bool.false_eq_true, if_false]
    simp only [hy]
    rw [Sem.bind_eq_wrap', Sem.bind_eq_wrap', Sem.wrap_wrap, Sem.wrap_wrap]
    refine seg_wrap (wpAny_mono (hq.item _ _ i va vb _ _ hh' hlt hPv hn₂ (by simp [hab]) (by simp)) (fun y s₄ h₄ => ?_) fun _ _ e => e)
    obtain ⟨hFy, h₄, tk₄, rfl, hk₄⟩ := h₄
    have e1 : cnt - 1 - k = i := by omega
    refine seg_at (seg_yield rfl rfl rfl ⟨by rw [e1]; exact hFy, hsince₃.step fun b o _ _ e => hk₄ b o e, fun s'' hal => ?_⟩)
    refine seg_again rfl (ih (i + 1) s'' s'' _ (by omega) hlt ((W₀ A hh).frame _ _ _ hst₂ fun b hb o e => hal b (List.mem_cons_of_mem _ hb) o (hk₄ b o e))
      ((hn₂.keeps hk₄).at' fun o e => hal _ (List.mem_cons_self ..) o e) (GenSince.refl _ _ _) fun b o hbw e => hal b (List.mem_cons_of_mem _ (h4p b o e)) o (hk₄ b o (old4 b o hbw e)))
end
end Mine

end
section -- GJoin
open PySem PySem.W PyProof.Rows PySem.Calls
set_option Elab.async false
set_option maxRecDepth 100000
namespace Mine
section
variable {prog : Program} {w : World} {A : Around} {a C : Addr} {g : Nat} {fp wr : List Addr} {n₀ cnt : Nat} {F : Nat → Value → Prop} {gh : Heap} {outer : List Env} {cls : String}
def GxAt (prog : Program) (w : World) (A : Around) (a : Addr) (g : Nat) (C : Addr) (fp wr : List Addr) (n₀ cnt : Nat) (F : Nat → Value → Prop) (gh : Heap) (outer : List Env) (cls : String) (i : Nat) (s : Shared) : Prop :=
  s.heap.IsGen a g ∧ s.heap.NoLimit ∧ ∃ gs, s.gens[g]? = some gs ∧ ∀ s'' : Shared, (∀ b ∈ C :: fp, ∀ o, s.heap.get? b = some o → s''.heap.get? b = some o) →
    gs.Goes (model prog w) A.in1 (gxEnd C wr n₀ cnt gh outer cls) (gxProto C fp wr cnt F) (cnt - i) (.send .none) s''
theorem gx_item (hh : A.handled = none) (hroom : A.depth < recursionLimit) (haC : a ≠ C) (haw : a ∉ wr) (hcC : cStatics ≠ C) (hcw : cStatics ∉ wr) {i : Nat} {s : Shared} {Q : Option Value → Shared → Prop} {E : Value → Shared → Prop}
    (hi : i < cnt) (st : GxAt prog w A a g C fp wr n₀ cnt F gh outer cls i s)
    (hQ : ∀ v s', F i v → GxAt prog w A a g C fp wr n₀ cnt F gh outer cls (i + 1) s' → Moved (C :: wr) (GenOnlyQ g) s s' → Q (some v) s') :
    wpAny (model prog w) A (pyNext (.ref a)) Q E s := by
  obtain ⟨hg, hl, gs, hgs, hgo⟩ := st
  obtain ⟨m, hm⟩ : ∃ m, cnt - i = m + 1 := ⟨cnt - i - 1, by omega⟩
  rw [hm] at hgo
  refine wpAny_with_toks (Nat.le_refl s.toks) ?_
  refine pyNext_genX hh hl hroom hg hgs (hgo _ fun _ _ _ e => e) (fun v s₁ gs' hb hv => ?_) (fun r s₁ hp => ?_)
  · obtain ⟨hF, ⟨h₁, tk₁, rfl, hk₁⟩, hkap⟩ := hv
    have hidx : cnt - 1 - (m + 1 - 1) = i := by omega
    rw [hidx] at hF
    intro htk
    refine hQ v _ hF ⟨let ⟨o, nm, qn, ho, r⟩ := hg; ⟨o, nm, qn, hk₁ a o haC haw ho, r⟩, (let ⟨mc, hns, hnn⟩ := hl; ⟨mc, hns.at' fun o e => hk₁ cStatics o hcC hcw e, hnn⟩), gs', setGen_self (gs := .running) (setGen_self hgs), fun s'' hal => ?_⟩
      ⟨fun b o hb e => hk₁ b o (fun h => hb (h ▸ List.mem_cons_self ..)) (fun h => hb (List.mem_cons_of_mem _ h)) e, GenOnlyQ.of ((GenOnly.setGen s g .running).trans (GenOnly.setGen _ g gs')) (setGen_self (gs := .running) (setGen_self hgs)) hb, rfl, rfl, htk⟩
    have e : cnt - (i + 1) = m := by omega
    rw [e]
    exact hkap s'' hal
  · exact absurd hp.1 (Nat.succ_ne_zero m)
theorem gx_done (hh : A.handled = none) (hroom : A.depth < recursionLimit) (hcn : cnt = n₀) {s : Shared} {Q : Option Value → Shared → Prop} {E : Value → Shared → Prop}
    (st : GxAt prog w A a g C fp wr n₀ cnt F gh outer cls cnt s) (hQ : ∀ s', Moved (C :: wr) (GenOnlyQ g) s s' → Q none s') : wpAny (model prog w) A (pyNext (.ref a)) Q E s := by
  obtain ⟨hg, hl, gs, hgs, hgo⟩ := st
  rw [Nat.sub_self] at hgo
  refine wpAny_with_toks (Nat.le_refl s.toks) ?_
  refine pyNext_genX hh hl hroom hg hgs (hgo _ fun _ _ _ e => e) (fun v s₁ gs' hb hv => ?_) (fun r s₁ hp => ?_)
  · obtain ⟨_, _, hkap⟩ := hv
    exact False.elim (hkap s₁ fun _ _ _ e => e)
  · obtain ⟨_, ⟨_, rfl, h₁, tk₁, rfl, hk₁⟩ | ⟨hlt, _⟩⟩ := hp
    · refine .inl ⟨.inr rfl, fun h' hk htk => ?_⟩
      exact hQ _ ⟨fun b o hb e => hk b o (hk₁ b o (fun h => hb (h ▸ List.mem_cons_self ..)) (fun h => hb (List.mem_cons_of_mem _ h)) e), GenOnlyQ.of ((GenOnly.setGen s g .running).trans (GenOnly.setGen _ g .finished)) (setGen_self (gs := .running) (setGen_self hgs)) rfl, rfl, rfl, htk⟩
    · omega
/-- the exception leaves the generator -/
structure GxBad (g : Nat) (gh : Heap) (outer : List Env) (cls : String) (s : Shared) (e : Addr) (s' : Shared) : Prop where
  fly : Fly gh outer e cls s'.heap
  gens : GenOnlyQ g s.gens s'.gens
  drawn : s'.drawn = s.drawn
  os : s'.os = s.os
theorem gx_bad (hh : A.handled = none) (hroom : A.depth < recursionLimit) (hcn : cnt < n₀) (hgen : gh.IsGen a g) (ha8 : a ≠ 248) (hao : a ∉ frs outer) (hsub : isSubtype (.type cls) (.type "StopIteration") = pure false) {s : Shared} {Q : Option Value → Shared → Prop} {E : Value → Shared → Prop}
    (st : GxAt prog w A a g C fp wr n₀ cnt F gh outer cls cnt s) (hE : ∀ e s', GxBad g gh outer cls s e s' → E (.ref e) s') : wpAny (model prog w) A (pyNext (.ref a)) Q E s := by
  obtain ⟨hg, hl, gs, hgs, hgo⟩ := st
  rw [Nat.sub_self] at hgo
  refine pyNext_genX hh hl hroom hg hgs (hgo _ fun _ _ _ e => e) (fun v s₁ gs' hb hv => ?_) (fun r s₁ hp => ?_)
  · obtain ⟨_, _, hkap⟩ := hv
    exact False.elim (hkap s₁ fun _ _ _ e => e)
  · obtain ⟨_, ⟨e, _⟩ | ⟨_, e, h', tk, rfl, rfl, fl⟩⟩ := hp
    · omega
    · refine .inr ⟨.ref e, rfl, ?_, ?_, hE e _ ⟨fl, GenOnlyQ.of ((GenOnly.setGen s g .running).trans (GenOnly.setGen _ g .finished)) (setGen_self (gs := .running) (setGen_self hgs)) rfl, rfl, rfl⟩⟩
      · obtain ⟨o, nm, qn, ho, r⟩ := hgen
        exact ⟨o, nm, qn, fl.keep a o ha8 hao ho, r⟩
      · intro A' Q' E' hq
        obtain ⟨ob, ho, hc⟩ := fl.there
        exact wpAny_isInstance (T := cls) (b := false) ⟨ob, ho, hc⟩ hsub hq
theorem GxAt.frame (haf : a ∈ fp) (hcs : cStatics ∈ fp) {i : Nat} {s : Shared} {h' : Heap} {tk : Nat} (st : GxAt prog w A a g C fp wr n₀ cnt F gh outer cls i s) (hk : ∀ b ∈ C :: fp, ∀ o, s.heap.get? b = some o → h'.get? b = some o) :
    GxAt prog w A a g C fp wr n₀ cnt F gh outer cls i { s with heap := h', toks := tk } :=
  ⟨let ⟨o, nm, qn, ho, r⟩ := st.1; ⟨o, nm, qn, hk a (.tail _ haf) o ho, r⟩, (let ⟨mc, hns, hnn⟩ := st.2.1; ⟨mc, hns.at' fun o e => hk cStatics (.tail _ hcs) o e, hnn⟩),
    let ⟨gs, hgs, hgo⟩ := st.2.2; ⟨gs, hgs, fun s'' hal => hgo s'' fun b hb o e => hal b hb o (hk b hb o e)⟩⟩
theorem GxAt.walks (hh : A.handled = none) (hroom : A.depth < recursionLimit) (haC : a ≠ C) (haw : a ∉ wr) (hcC : cStatics ≠ C) (hcw : cStatics ∉ wr) (haf : a ∈ fp) (hcs : cStatics ∈ fp) (hsub : ∀ b ∈ wr, b ∈ fp) (hcn : cnt = n₀) :
    WalksS prog w A a (C :: fp) (C :: wr) (GenOnlyQ g) cnt F (GxAt prog w A a g C fp wr n₀ cnt F gh outer cls) where
  sub := fun b hb => (List.mem_cons.mp hb).elim (fun e => e ▸ .head _) fun h => .tail _ (hsub b h)
  grefl := fun _ => .inl rfl
  gtrans := fun _ _ _ x y => x.trans y
  frame := fun _ _ _ _ st _ hk => st.frame haf hcs hk
  item := fun _ _ _ _ hi st hQ => gx_item hh hroom haC haw hcC hcw hi st hQ
  done := fun _ _ _ st hQ => gx_done hh hroom hcn st hQ
  self := fun _ _ _ _ st hQ => wpAny_pyIter_gen st.1 hQ
end
section
variable {prog : Program} {w : World} {A : Around} {R : Result → Shared → Prop} {a C : Addr} {g : Nat} {fp wr : List Addr} {n₀ cnt : Nat} {F : Nat → Value → Prop} {gh : Heap} {outer : List Env} {cls : String}
/-- list.extend over a generator that raises -/
theorem extend_bad (hh : A.handled = none) (hroom : A.in1.depth < recursionLimit) (haC : a ≠ C) (haw : a ∉ wr) (hcC : cStatics ≠ C) (hcw : cStatics ∉ wr) (haf : a ∈ fp) (hcs : cStatics ∈ fp) (hsub : ∀ b ∈ wr, b ∈ fp)
    (hcn : cnt < n₀) (hgen : gh.IsGen a g) (ha8 : a ≠ 248) (hao : a ∉ frs outer) (hst : isSubtype (.type cls) (.type "StopIteration") = pure false)
    (hn : cnt ≤ sizeLine) (S : Addr) (hSf : S ∉ C :: fp) (res : Value) :
    ∀ (k i : Nat) (s : Shared) (acc : Array Value) (c : Nat), cnt - i = k → i ≤ cnt → acc.size = i → GxAt prog w A.in1 a g C fp wr n₀ cnt F gh outer cls i s → s.heap.get? S = some { cls := .type "list", dict := none, data := .seq acc c, slots := #[] } →
    (∀ e s' s₁, GenOnlyQ g s.gens s₁.gens → s₁.os = s.os → s₁.drawn = s.drawn → GxBad g gh outer cls s₁ e s' → R (.error (.ref e)) s') →
    codeAny (model prog w) A (.builtin "list.extend.loop" ⟨[.ref S, .ref a, res], []⟩) R s := by
  have hSw : S ∉ C :: wr := fun h => hSf ((List.mem_cons.mp h).elim (fun e => e ▸ .head _) fun h => .tail _ (hsub _ h))
  have hh1 : A.in1.handled = none := hh
  intro k
  induction k with
  | zero =>
    intro i s acc c hk hi _ hst' hS hR
    have hin : i = cnt := by omega
    subst hin
    refine codeAny_builtin PySem.F.entry_extend_loop ?_
    rw [Around.under_plainId PySem.F.plain_extend_loop _]
    show wpAny _ A.in1 (pyNext (.ref a) >>= _) _ _ s
    exact wpAny_bind (gx_bad hh1 hroom hcn hgen ha8 hao hst hst' fun e s' x => hR e s' s (.inl rfl) rfl rfl x)
  | succ k ih =>
    intro i s acc c hk hi hacc hst' hS hR
    have hlt : i < cnt := by omega
    refine codeAny_builtin PySem.F.entry_extend_loop ?_
    rw [Around.under_plainId PySem.F.plain_extend_loop _]
    show wpAny _ A.in1 (pyNext (.ref a) >>= _) _ _ s
    refine wpAny_bind (gx_item hh1 hroom haC haw hcC hcw hlt hst' fun v s' hP st' hm => ?_)
    have hS' := hm.heap S _ hSw hS
    show wpAny _ A.in1 (updateSeq S (·.push v) >>= _) _ _ _
    refine wpAny_bind ?_
    refine wpAny_updateSeq hS' rfl (wpAny_pure ⟨plainId_quiet PySem.F.plain_extend_loop _, ih (i + 1) _ (acc.push v) _ (by omega) hlt (by rw [Array.size_push, hacc]) (GxAt.frame (tk := s'.toks) haf hcs st' fun b hb o e => ?_) (Heap.get?_update_self _ hS' rfl) fun e s'' s₁ x1 x2 x3 x4 => ?_⟩)
      (by rw [hacc]; omega) (by show (acc.push v).size ≤ sizeLine + 1; rw [Array.size_push, hacc]; omega)
    · exact (Heap.get?_update_other _ _ (fun h : S = b => hSf (by rw [h]; exact hb))).trans e
    · exact hR e s'' s₁ (hm.gens.trans x1) (x2.trans hm.os) (x3.trans hm.drawn) x4
end
section
variable {prog : Program} {w : World} {A : Around} {E : Value → Shared → Prop} {s : Shared} {a C : Addr} {g : Nat} {fp wr : List Addr} {n₀ cnt : Nat} {F : Nat → Value → Prop} {gh : Heap} {outer : List Env} {cls : String}
theorem collect_bad {Q : List Value → Shared → Prop} (hh : A.handled = none) (hroom : A.in1.in1.depth < recursionLimit) (haC : a ≠ C) (haw : a ∉ wr) (hcC : cStatics ≠ C) (hcw : cStatics ∉ wr) (haf : a ∈ fp) (hcs : cStatics ∈ fp) (hsub : ∀ b ∈ wr, b ∈ fp)
    (hcn : cnt < n₀) (hgen : gh.IsGen a g) (ha8 : a ≠ 248) (hao : a ∉ frs outer) (hst : isSubtype (.type cls) (.type "StopIteration") = pure false)
    (hst0 : GxAt prog w A.in1 a g C fp wr n₀ cnt F gh outer cls 0 s) (hfp : ∀ b ∈ C :: fp, b < s.heap.objs.size)
    (hE : ∀ e s' s₁, GenOnlyQ g s.gens s₁.gens → s₁.os = s.os → s₁.drawn = s.drawn → GxBad g gh outer cls s₁ e s' → E (.ref e) s') (hn : cnt ≤ sizeLine := by size_fits) : wpAny (model prog w) A (collect (.ref a)) Q E s := by
  have hSf : s.heap.objs.size ∉ C :: fp := fun hm => Nat.lt_irrefl _ (hfp _ hm)
  have hSI : s.heap.objs.size ≠ a := fun e => hSf (e ▸ .tail _ haf)
  have hT : ∀ {s : Shared}, GxAt prog w A.in1 a g C fp wr n₀ cnt F gh outer cls 0 s → s.TypeIs (.ref a) "generator" := fun st => st.1.typeIs
  unfold collect
  refine wpAny_bind (wpAny_runValue (codeAny_builtin PySem.F.entry_proto_collect ?_))
  rw [Around.under_plainId PySem.F.plain_proto_collect _]
  show wpAny _ A.in1 (newList [] >>= fun l => again (.builtin "list.__iadd__" ⟨[l, .ref a], []⟩)) _ _ s
  refine wpAny_bind (wpAny_newObj_type ?_)
  refine wpAny_pure ⟨plainId_quiet PySem.F.plain_list_iadd _, codeAny_builtin PySem.F.entry_list_iadd ?_⟩
  rw [Around.under_plainId PySem.F.plain_list_iadd _]
  have hst₁ := GxAt.frame (tk := s.toks) (h' := s.heap.push { cls := .type "list", data := .seq ([] : List Value).toArray }) haf hcs hst0 fun b _ o e => Heap.get?_push_of_some _ e
  show wpAny _ A.in1 (Builtin.List.listExtendWith (.ref s.heap.objs.size) (.ref a) (.ref s.heap.objs.size)) _ _ _
  unfold Builtin.List.listExtendWith
  refine wpAny_bind (wpAny_typeOf (hT hst₁) ?_)
  have h1 : Builtin.List.listSameRef (.ref s.heap.objs.size) (.ref a) = false := by simp [Builtin.List.listSameRef, hSI]
  have h2 : (Value.type "generator" == Value.type "list") = false := by decide
  have h3 : (Value.type "generator" == Value.type "tuple") = false := by decide
  simp only [h1, h2, h3, Bool.or_false, Bool.false_eq_true, if_false]
  refine wpAny_bind (wpAny_pyIter_gen hst₁.1 ?_)
  refine wpAny_bind (wpAny_holding ?_)
  unfold Builtin.List.listLengthHint
  refine wpAny_bind (wpAny_specialOf (hT hst₁) PySem.F.gen_no_len ?_)
  show wpAny _ A.in1 (specialOf (Value.ref a) (Str.ofString "__length_hint__") >>= _) _ _ _
  refine wpAny_bind (wpAny_specialOf (hT hst₁) PySem.F.gen_no_hint ?_)
  refine wpAny_pure ?_
  show wpAny _ A.in1 (rule "list.extend.makes-room" >>= fun _ => Builtin.List.listTouch (.ref s.heap.objs.size) >>= fun _ =>
    again (.builtin "list.extend.loop" ⟨[.ref s.heap.objs.size, .ref a, .ref s.heap.objs.size], []⟩)) _ _ _
  refine wpAny_bind (wpAny_rule ?_)
  have hS₁ : (s.heap.push { cls := .type "list", data := .seq ([] : List Value).toArray }).get? s.heap.objs.size = some { cls := .type "list", data := .seq ([] : List Value).toArray } := Heap.get?_push_size _ rfl
  refine wpAny_bind ?_
  show wpAny _ A.in1 (updateSeq s.heap.objs.size (·.push .none) >>= fun _ => updateSeq s.heap.objs.size (·.pop)) _ _ _
  refine wpAny_bind (wpAny_updateSeq hS₁ rfl ?_)
  have hS₂ := Heap.get?_update_self (Obj.mapSeq (·.push Value.none)) hS₁ rfl
  refine wpAny_updateSeq hS₂ rfl ?_
  have hS₃ := Heap.get?_update_self (Obj.mapSeq (·.pop)) hS₂ rfl
  have oth : ∀ b o, b ≠ s.heap.objs.size → (s.heap.push { cls := .type "list", data := .seq ([] : List Value).toArray }).get? b = some o →
      (((s.heap.push { cls := .type "list", data := .seq ([] : List Value).toArray }).update s.heap.objs.size (Obj.mapSeq (·.push Value.none))).update s.heap.objs.size (Obj.mapSeq (·.pop))).get? b = some o :=
    fun b o hb e => (Heap.get?_update_other _ _ (Ne.symm hb)).trans ((Heap.get?_update_other _ _ (Ne.symm hb)).trans e)
  refine wpAny_pure ⟨plainId_quiet PySem.F.plain_extend_loop _, extend_bad (A := A) hh hroom haC haw hcC hcw haf hcs hsub hcn hgen ha8 hao hst hn _ hSf _ cnt 0 _ _ _ rfl (Nat.zero_le _) rfl
    (GxAt.frame (s := ({ s with heap := s.heap.push { cls := .type "list", data := .seq ([] : List Value).toArray } } : Shared)) (tk := s.toks) haf hcs hst₁ fun b hb o e => oth b o (fun h => hSf (h ▸ hb)) e) hS₃ fun e s' s₁ x1 x2 x3 x4 => ?_⟩
  exact hE e s' s₁ x1 x2 x3 x4
theorem join_bad {x : Str} {t : Tok} {Q : Value → Shared → Prop} (hh : A.handled = none) (hroom : A.in1.in1.in1.depth < recursionLimit) (haC : a ≠ C) (haw : a ∉ wr) (hcC : cStatics ≠ C) (hcw : cStatics ∉ wr) (haf : a ∈ fp) (hcs : cStatics ∈ fp) (hsub : ∀ b ∈ wr, b ∈ fp)
    (hcn : cnt < n₀) (hgen : gh.IsGen a g) (ha8 : a ≠ 248) (hao : a ∉ frs outer) (hst : isSubtype (.type cls) (.type "StopIteration") = pure false)
    (hst0 : GxAt prog w A.in1.in1 a g C fp wr n₀ cnt F gh outer cls 0 s) (hfp : ∀ b ∈ C :: fp, b < s.heap.objs.size)
    (hE : ∀ e s' s₁, GenOnlyQ g s.gens s₁.gens → s₁.os = s.os → s₁.drawn = s.drawn → GxBad g gh outer cls s₁ e s' → E (.ref e) s') (hn : cnt ≤ sizeLine := by size_fits) : wpAny (model prog w) A (call (.builtin "str.join") [.str x t, .ref a]) Q E s := by
  refine wpAny_call (codeAny_call_builtin PySem.F.slot_str_join.plain PySem.F.entry_str_join (PySem.F.slot_str_join.check _ _ _ _ _ _ _ _ (typeIs_str _ _ _) (PySem.F.args_str_join_2 _ _) ?_))
  rw [join_tree_other]
  refine wpAny_bind (wpAny_typeOf hst0.1.typeIs ?_)
  show wpAny _ A.in1 ((pyIter (.ref a)).tryCatch _ >>= fun it => collect it >>= fun items => joinTail x items) _ _ s
  refine wpAny_bind (wpAny_tryCatch (wpAny_pyIter_gen hst0.1 ?_))
  exact wpAny_bind (collect_bad (A := A.in1) hh hroom haC haw hcC hcw haf hcs hsub hcn hgen ha8 hao hst hst0 hfp hE hn)
end
end Mine

end
section -- KwEl
open PySem PySem.W PyProof.Rows PySem.Calls
set_option Elab.async false
set_option maxRecDepth 100000
namespace Mine
abbrev eltE (p1 p2 p3 p4 p5 p6 p7 p8 p9 p10 : Pos) : Expr := .IfExp (.BoolOp .And [.Compare (.Name (Str.ofString "tag_c") p1) [.Eq] [.Constant (.str (Str.ofString " ")) 0 p2] p3, .Call (.Attribute (.Name (Str.ofString "c") p4) (Str.ofString "isspace") p5) [] [] p6] p7) (.Name (Str.ofString "c") p8) (.Name (Str.ofString "tag_c") p9) p10
theorem int_no_isspace : typeLookup (.type "int") (Str.ofString "isspace") = pure none := by rw [typeLookup_type, builtinLookup_eq_fast]; kernel_rfl
theorem getAttr_missI {prog : Program} {w : World} {A : Around} {E : Value → Shared → Prop} {s : Shared} {n : Int} {t : Tok} {name : Str} {Q : Value → Shared → Prop} (hmiss : typeLookup (.type "int") name = pure none) (hA : A.handled = none)
    (h : ∀ h' tk e, NewX s.heap h' e "AttributeError" → E (.ref e) { s with heap := h', toks := tk }) (hsz : name.length + 100 ≤ sizeLine := by size_fits) :
    wpAny (model prog w) A (getAttr (.int n t) name false) Q E s := by
  obtain ⟨hp, g, d, tk, os⟩ := s
  have hT : ∀ s' : Shared, s'.TypeIs (.int n t) "int" := fun _ => rfl
  have f1 := sub_AttributeError
  have f3 := F.slot_int_getattribute.lookup
  have f4 := F.slot_int_getattribute.bind (.int n t)
  have f5 := am_int_getattr_none
  unfold getAttr getAttrBy
  repeat (any_goals (first | assumption | ((with_reducible show wpAny _ _ (call (Value.builtin "int.__getattribute__") _ _) _ _ _); refine call_meets F.slot_int_getattribute (hT _) am_entry_int_getattribute (F.args_int_getattribute_2 _ _) (meets_getattribute_miss_int n t name _ hmiss hsz) ⟨hA, fun h' tk' e hx => ?_⟩) | wp_step))
  obtain ⟨t', u', he⟩ := hx.there
  show wpAny _ _ (getattributeRaised _ _ _ _ _ _ _) _ _ _
  unfold getattributeRaised
  repeat (any_goals (first | assumption | wp_step))
  exact h _ _ _ (NewX.ofAttr hx)
theorem getMethod_isspace {prog : Program} {w : World} {A : Around} {E : Value → Shared → Prop} {s : Shared} {n : Int} {t : Tok} {pl : Sem Bool} {Q : Value × List Value → Shared → Prop} (hA : A.handled = none)
    (h : ∀ h' tk e, NewX s.heap h' e "AttributeError" → E (.ref e) { s with heap := h', toks := tk }) :
    wpAny (model prog w) A (getMethod (.int n t) (Str.ofString "isspace") pl) Q E s := by
  have hT : s.TypeIs (.int n t) "int" := rfl
  unfold getMethod
  refine wpAny_bind (wpAny_specialOf hT F.slot_int_getattribute.lookup ?_)
  have e1 : (Manifest.canonical "int.__getattribute__" != "object.__getattribute__") = false := by decide +kernel
  simp only [e1, Bool.false_eq_true, if_false]
  refine wpAny_bind (wpAny_specialOf hT am_int_getattr_none ?_)
  refine wpAny_bind (wpAny_specialOf hT int_no_isspace ?_)
  exact wpAny_bind (getAttr_missI int_no_isspace hA h)
section
variable {prog : Program} {w : World} {A : Around} {E : Value → Shared → Prop} {s : Shared} {cenv : Env} {m : Str → Option Value} {Q : Value → Shared → Prop}
theorem ldC {x : Str} {pos : Pos} {v : Value} (hk : cenv.scope.kind = .function) (hl : cenv.kindOf x = some .local) (hn : s.heap.Ns cenv.locals m) (hv : m x = some v) (h : Q v s) (hd : (x == ("__debug__" : Str)) = false := by decide) :
    wpAny (model prog w) A (eval (.Name x pos) cenv) Q E s := wpAny_Name (wpAny_loadName_local hk hl hn hv h) hd
variable {y : Str} {u : Tok} {p1 p2 p3 p4 p5 p6 p7 p8 p9 p10 : Pos}
theorem elt_head {cv : Value} {Q : Bool → Shared → Prop} (hk : cenv.scope.kind = .function) (hd : cenv.kindOf (Str.ofString "tag_c") = some .local) (hn : s.heap.Ns cenv.locals m) (h2 : m (Str.ofString "tag_c") = some (.str y u))
    (hf : (y == Str.ofString " ") = false → Q false { s with toks := s.toks + 1 })
    (ht : (y == Str.ofString " ") = true → wpAny (model prog w) A (isTrue (.Call (.Attribute (.Name (Str.ofString "c") p4) (Str.ofString "isspace") p5) [] [] p6) cenv (eval (.Call (.Attribute (.Name (Str.ofString "c") p4) (Str.ofString "isspace") p5) [] [] p6) cenv))
      (fun b s₁ => Q b s₁) E { s with toks := s.toks + 1 }) :
    wpAny (model prog w) A (isTrue (.BoolOp .And [.Compare (.Name (Str.ofString "tag_c") p1) [.Eq] [.Constant (.str (Str.ofString " ")) 0 p2] p3, .Call (.Attribute (.Name (Str.ofString "c") p4) (Str.ofString "isspace") p5) [] [] p6] p7) cenv (eval (.BoolOp .And [.Compare (.Name (Str.ofString "tag_c") p1) [.Eq] [.Constant (.str (Str.ofString " ")) 0 p2] p3, .Call (.Attribute (.Name (Str.ofString "c") p4) (Str.ofString "isspace") p5) [] [] p6] p7) cenv)) Q E s := by
  refine wpAny_isTrue_BoolOp (wpAny_allTrue_And_cons ?_)
  refine wpAny_isTrue_Compare1 (ldC hk hd hn h2 (Calls.Constant_str ?_))
  refine PyProof.Rows.eq_str (wpAny_truthy_bool ?_)
  cases e : (y == Str.ofString " ") with
  | false => exact hf e
  | true =>
    show wpAny _ _ (allTrue .And [_] cenv) _ _ _
    refine wpAny_allTrue_And_cons (wpAny_mono (ht e) (fun b s₁ hb => ?_) fun _ _ x => x)
    cases b with
    | false => exact hb
    | true => exact wpAny_allTrue_And_nil hb
theorem elt_str {x : Str} {t : Tok} (hk : cenv.scope.kind = .function) (hc : cenv.kindOf (Str.ofString "c") = some .local) (hd : cenv.kindOf (Str.ofString "tag_c") = some .local) (hn : s.heap.Ns cenv.locals m)
    (h1 : m (Str.ofString "c") = some (.str x t)) (h2 : m (Str.ofString "tag_c") = some (.str y u)) (hl : (p5.endLine == p6.line) = true)
    (hQ : Q (if (y == Str.ofString " ") = true then (if Txt.isspace x = true then .str x t else .str y u) else .str y u) { s with toks := s.toks + 1 }) :
    wpAny (model prog w) A (eval (eltE p1 p2 p3 p4 p5 p6 p7 p8 p9 p10) cenv) Q E s := by
  refine wpAny_IfExp (elt_head (cv := .none) hk hd hn h2 (fun e => ?_) fun e => ?_)
  · rw [if_neg Bool.false_ne_true]
    refine ldC (s := { s with toks := s.toks + 1 }) hk hd hn h2 ?_
    rw [e] at hQ; exact hQ
  · refine isTrue_plain (Call_method0 rfl hl (ldC (s := { s with toks := s.toks + 1 }) hk hc hn h1 (SB.isspace (wpAny_truthy_bool ?_)))) rfl
    rw [e] at hQ
    cases e2 : Txt.isspace x with
    | false =>
      rw [if_neg Bool.false_ne_true]
      refine ldC (s := { s with toks := s.toks + 1 }) hk hd hn h2 ?_
      rw [e2] at hQ; exact hQ
    | true =>
      rw [if_pos rfl]
      refine ldC (s := { s with toks := s.toks + 1 }) hk hc hn h1 ?_
      rw [e2] at hQ; exact hQ
theorem elt_int {cv : Value} (hk : cenv.scope.kind = .function) (hd : cenv.kindOf (Str.ofString "tag_c") = some .local) (hn : s.heap.Ns cenv.locals m)
    (h2 : m (Str.ofString "tag_c") = some (.str y u)) (hb : (y == Str.ofString " ") = false) (hQ : Q (.str y u) { s with toks := s.toks + 1 }) :
    wpAny (model prog w) A (eval (eltE p1 p2 p3 p4 p5 p6 p7 p8 p9 p10) cenv) Q E s := by
  refine wpAny_IfExp (elt_head (cv := cv) hk hd hn h2 (fun e => ?_) fun e => ?_)
  · rw [if_neg Bool.false_ne_true]
    exact ldC (s := { s with toks := s.toks + 1 }) hk hd hn h2 hQ
  · rw [e] at hb; cases hb
theorem Call_missI {n : Int} {t : Tok} {o : Expr} {name : Str} {apos pos : Pos} (hbase : attributeBase o name cenv (eval o cenv) = eval o cenv) (hline : (apos.endLine == pos.line) = true)
    (h : wpAny (model prog w) A (eval o cenv) (fun ov s₁ => ov = .int n t ∧ ∀ (Q : Value × List Value → Shared → Prop) pl, wpAny (model prog w) A (getMethod (.int n t) name pl) Q E s₁) E s) :
    wpAny (model prog w) A (eval (.Call (.Attribute o name apos) [] [] pos) cenv) Q E s := by
  rw [arm_eval_Call, hbase]
  refine wpAny_bind (wpAny_mono h (fun ov s₁ h₁ => ?_) fun _ _ e => e)
  obtain ⟨rfl, hm⟩ := h₁
  refine wpAny_bind (wpAny_standAt ?_)
  have hform : methodCallForm (([] : List Expr).length + ([] : List Keyword).length) (backTo pos (starEach [] cenv)) (backToKw pos (keywordEach [] cenv)) = true := rfl
  unfold methodCall
  rw [hform]
  exact wpAny_bind (wpAny_holding (hm _ _))
theorem elt_bad {n : Int} {t : Tok} (hA : A.handled = none) (hk : cenv.scope.kind = .function) (hc : cenv.kindOf (Str.ofString "c") = some .local) (hd : cenv.kindOf (Str.ofString "tag_c") = some .local) (hn : s.heap.Ns cenv.locals m)
    (h1 : m (Str.ofString "c") = some (.int n t)) (h2 : m (Str.ofString "tag_c") = some (.str y u)) (hb : (y == Str.ofString " ") = true) (hl : (p5.endLine == p6.line) = true)
    (hE : ∀ h' tk e, NewX s.heap h' e "AttributeError" → E (.ref e) { s with heap := h', toks := tk }) :
    wpAny (model prog w) A (eval (eltE p1 p2 p3 p4 p5 p6 p7 p8 p9 p10) cenv) Q E s := by
  refine wpAny_IfExp (elt_head (cv := .none) hk hd hn h2 (fun e => ?_) fun e => ?_)
  · rw [e] at hb; cases hb
  · refine isTrue_plain (Call_missI (n := n) (t := t) rfl hl (ldC (s := { s with toks := s.toks + 1 }) hk hc hn h1 ⟨rfl, fun Q' pl => ?_⟩)) rfl
    exact getMethod_isspace hA fun h' tk e x => hE h' tk e x
end
end Mine

end
section -- Zp1
open PySem PySem.W PyProof.Rows PySem.Calls
set_option Elab.async false
set_option maxRecDepth 100000
namespace Mine
/-- an iterator that nextOf draws from: n items, then StopIteration -/
structure Draws (I : Addr) (fp wr : List Addr) (n : Nat) (P : Nat → Value → Prop) (St : Nat → Heap → Prop) : Prop where
  sub : ∀ b ∈ wr, b ∈ fp
  frame : ∀ i h h', St i h → (∀ b ∈ fp, ∀ o, h.get? b = some o → h'.get? b = some o) → St i h'
  live : ∀ i h, St i h → ∀ b ∈ fp, ∃ o, h.get? b = some o
  item : ∀ (prog : Program) (w : World) (A : Around) i (s : Shared) (Q : Value → Shared → Prop) (E : Value → Shared → Prop), i < n → St i s.heap →
    (∀ v h' tk, P i v → St (i + 1) h' → h'.objs.size = s.heap.objs.size → (∀ b o, b ∉ wr → s.heap.get? b = some o → h'.get? b = some o) → Q v { s with heap := h', toks := tk }) →
    wpAny (model prog w) A (Builtin.SmallTypes.nextOf (.ref I)) Q E s
  done : ∀ (prog : Program) (w : World) (A : Around) (s : Shared) (Q : Value → Shared → Prop) (E : Value → Shared → Prop), A.handled = none → St n s.heap →
    (∀ h' e, (∃ o, h'.get? e = some o ∧ o.cls = .type "StopIteration") → (∀ b o, b ∉ wr → s.heap.get? b = some o → h'.get? b = some o) → E (.ref e) { s with heap := h' }) →
    wpAny (model prog w) A (Builtin.SmallTypes.nextOf (.ref I)) Q E s
section
variable {prog : Program} {w : World} {A : Around} {E : Value → Shared → Prop} {s : Shared}
theorem nextOf_ascii_item {it : Addr} {x : Str} {t : Tok} {i c : Nat} {Q : Value → Shared → Prop} (hit : s.heap.IsStrIter it "str_ascii_iterator" x t i) (hx : x.cps[i]? = some c)
    (hQ : ∀ h', h'.IsStrIter it "str_ascii_iterator" x t (i + 1) → Heap.SameBut it s.heap h' → Q (.str ⟨#[c]⟩ s.toks) { s with heap := h', toks := s.toks + 1 }) :
    wpAny (model prog w) A (Builtin.SmallTypes.nextOf (.ref it)) Q E s := by
  obtain ⟨o, ho, hc, hd⟩ := id hit
  unfold Builtin.SmallTypes.nextOf
  refine wpAny_bind (wpAny_callSpecial?_slot (name := Str.ofString "__next__") hit.typeIs F.slot_str_ascii_iterator_next
    (wpAny_call_entry F.slot_str_ascii_iterator_next hit.typeIs F.entry_str_ascii_iterator_next ?_ (F.args_str_ascii_iterator_next_1 _)))
  show wpAny _ _ (field (.ref it) 0 >>= _) _ _ s
  refine wpAny_bind (wpAny_field ho hd (x := .str x t) rfl ?_)
  show wpAny _ _ (field (.ref it) 1 >>= _) _ _ s
  refine wpAny_bind (wpAny_field ho hd (x := .int i 0) rfl ?_)
  simp only [Int.toNat_natCast, hx]
  refine wpAny_bind (wpAny_setField ho hd (by simp) (wpAny_bind (wpAny_mkStr (wpAny_pure ⟨_, rfl, wpAny_pure (hQ _ ?_ (Heap.SameBut.update ..))⟩) (by show 1 ≤ sizeLine; decide))))
  exact ⟨_, Heap.get?_update_self _ ho (Obj.isFreed_of_fields (Obj.data_mapFields hd _)), (Obj.cls_mapFields ..).trans hc, by
    rw [Obj.data_mapFields hd]; simp [rawInt]⟩
theorem nextOf_ascii_end {it : Addr} {x : Str} {t : Tok} {i : Nat} {Q : Value → Shared → Prop} (hh : A.handled = none)
    (hit : s.heap.IsStrIter it "str_ascii_iterator" x t i) (hx : x.cps[i]? = none)
    (hE : ∀ h' e, Heap.ExtBut it s.heap h' → (∃ o, h'.get? e = some o ∧ o.cls = .type "StopIteration") → E (.ref e) { s with heap := h' }) : wpAny (model prog w) A (Builtin.SmallTypes.nextOf (.ref it)) Q E s := by
  obtain ⟨o, ho, hc, hd⟩ := id hit
  unfold Builtin.SmallTypes.nextOf
  refine wpAny_bind (wpAny_callSpecial?_slot (name := Str.ofString "__next__") hit.typeIs F.slot_str_ascii_iterator_next
    (wpAny_call_entry F.slot_str_ascii_iterator_next hit.typeIs F.entry_str_ascii_iterator_next ?_ (F.args_str_ascii_iterator_next_1 _)))
  show wpAny _ _ (field (.ref it) 0 >>= _) _ _ s
  refine wpAny_bind (wpAny_field ho hd (x := .str x t) rfl ?_)
  show wpAny _ _ (field (.ref it) 1 >>= _) _ _ s
  refine wpAny_bind (wpAny_field ho hd (x := .int i 0) rfl ?_)
  simp only [Int.toNat_natCast, hx]
  refine wpAny_bind (wpAny_rule (wpAny_bind (wpAny_setField ho hd (by simp) (wpAny_bind (wpAny_letGo ?_)))))
  show wpAny _ _ (newExc (.type "StopIteration") [] >>= _) _ _ _
  refine wpAny_bind ?_
  simp only [newExc, newTuple]
  refine wpAny_bind (wpAny_newObj_type ?_ (by size_fits))
  refine wpAny_bind (m := firstArgMember _ _) (wpAny_of_eq (a := Value.none) (by first | rfl | (simp only [firstArgMember]; rfl)) ?_)
  refine wpAny_newObj_type ?_ (by size_fits)
  simp only [raiseNew]
  refine wpAny_bind (wpAny_handled ?_)
  first | rw [show A.in1.handled = none from hh] | rw [hh]
  refine wpAny_bind (wpAny_pure (wpAny_throw ?_))
  exact hE _ _ (((Heap.SameBut.update ..).extBut.push _).push _) ⟨_, Heap.get?_push_size _ rfl, rfl⟩
theorem nextOf_bytes_item {it : Addr} {b : Array UInt8} {t : Tok} {i : Nat} {c : UInt8} {Q : Value → Shared → Prop} (hit : KBw.IsBytesIter s.heap it b t i) (hx : b[i]? = some c)
    (hQ : ∀ h', KBw.IsBytesIter h' it b t (i + 1) → Heap.SameBut it s.heap h' → Q (.int (c.toNat : Int) s.toks) { s with heap := h', toks := s.toks + 1 }) : wpAny (model prog w) A (Builtin.SmallTypes.nextOf (.ref it)) Q E s := by
  obtain ⟨o, ho, hc, hd⟩ := id hit
  unfold Builtin.SmallTypes.nextOf
  refine wpAny_bind (wpAny_callSpecial?_slot (name := PySem.Str.ofString "__next__") (KBw.iter_typeIs hit) KBw.slot_next
    (wpAny_call_entry KBw.slot_next (KBw.iter_typeIs hit) KBw.entry_next ?_ (KBw.args_next _)))
  show wpAny _ _ (field (.ref it) 0 >>= _) _ _ s
  refine wpAny_bind (wpAny_field ho hd (x := .bytes b t) rfl ?_)
  show wpAny _ _ (if (Value.bytes b t == Value.none) = true then _ else _) _ _ s
  rw [if_neg (show ¬ ((Value.bytes b t == Value.none) = true) from Bool.false_ne_true)]
  show wpAny _ _ (field (.ref it) 1 >>= _) _ _ s
  refine wpAny_bind (wpAny_field ho hd (x := .int i 0) rfl ?_)
  refine wpAny_bind (wpAny_of_eq (a := b) rfl ?_)
  simp only [Int.toNat_natCast, hx]
  refine wpAny_bind (wpAny_setField ho hd (by simp) (wpAny_bind (wpAny_mkInt (wpAny_pure ⟨_, rfl, wpAny_pure (hQ _ ?_ (Heap.SameBut.update ..))⟩))))
  exact ⟨_, Heap.get?_update_self _ ho (Obj.isFreed_of_fields (Obj.data_mapFields hd _)), (Obj.cls_mapFields ..).trans hc, by
    rw [Obj.data_mapFields hd]; simp [rawInt]⟩
theorem nextOf_bytes_end {it : Addr} {b : Array UInt8} {t : Tok} {i : Nat} {Q : Value → Shared → Prop} (hh : A.handled = none) (hit : KBw.IsBytesIter s.heap it b t i) (hx : b[i]? = none)
    (hE : ∀ h' e, Heap.ExtBut it s.heap h' → (∃ o, h'.get? e = some o ∧ o.cls = .type "StopIteration") → E (.ref e) { s with heap := h' }) : wpAny (model prog w) A (Builtin.SmallTypes.nextOf (.ref it)) Q E s := by
  obtain ⟨o, ho, hc, hd⟩ := id hit
  unfold Builtin.SmallTypes.nextOf
  refine wpAny_bind (wpAny_callSpecial?_slot (name := PySem.Str.ofString "__next__") (KBw.iter_typeIs hit) KBw.slot_next
    (wpAny_call_entry KBw.slot_next (KBw.iter_typeIs hit) KBw.entry_next ?_ (KBw.args_next _)))
  show wpAny _ _ (field (.ref it) 0 >>= _) _ _ s
  refine wpAny_bind (wpAny_field ho hd (x := .bytes b t) rfl ?_)
  show wpAny _ _ (if (Value.bytes b t == Value.none) = true then _ else _) _ _ s
  rw [if_neg (show ¬ ((Value.bytes b t == Value.none) = true) from Bool.false_ne_true)]
  show wpAny _ _ (field (.ref it) 1 >>= _) _ _ s
  refine wpAny_bind (wpAny_field ho hd (x := .int i 0) rfl ?_)
  refine wpAny_bind (wpAny_of_eq (a := b) rfl ?_)
  simp only [Int.toNat_natCast, hx]
  refine wpAny_bind (wpAny_rule (wpAny_bind (wpAny_setField ho hd (by simp) ?_)))
  show wpAny _ _ (newExc (.type "StopIteration") [] >>= _) _ _ _
  refine wpAny_bind ?_
  simp only [newExc, newTuple]
  refine wpAny_bind (wpAny_newObj_type ?_ (by size_fits))
  refine wpAny_bind (m := firstArgMember _ _) (wpAny_of_eq (a := Value.none) (by first | rfl | (simp only [firstArgMember]; rfl)) ?_)
  refine wpAny_newObj_type ?_ (by size_fits)
  simp only [raiseNew]
  refine wpAny_bind (wpAny_handled ?_)
  first | rw [show A.in1.handled = none from hh] | rw [hh]
  refine wpAny_bind (wpAny_pure (wpAny_throw ?_))
  exact hE _ _ (((Heap.SameBut.update ..).extBut.push _).push _) ⟨_, Heap.get?_push_size _ rfl, rfl⟩
end
theorem Draws.str (I : Addr) (x : Str) (t : Tok) : Draws I [I] [I] x.cps.size (fun i v => ∃ c u, x.cps[i]? = some c ∧ v = .str ⟨#[c]⟩ u) (fun i h => h.IsStrIter I "str_ascii_iterator" x t i) where
  sub := fun _ hb => hb
  frame := fun _ _ _ st hk => let ⟨o, ho, r⟩ := st; ⟨o, hk I (by simp) o ho, r⟩
  live := fun _ _ st b hb => let ⟨o, ho, _⟩ := st; ⟨o, by rw [List.mem_singleton.mp hb]; exact ho⟩
  item := fun prog w A i s Q E hi st hQ => nextOf_ascii_item st (c := x.cps[i]) (by simp [hi]) fun h' hit' hs' =>
    hQ _ h' _ ⟨_, _, by simp [hi], rfl⟩ hit' hs'.1 fun b o hb e => hs'.extBut b o (fun h => hb (by simp [h])) e
  done := fun prog w A s Q E hh st hE => nextOf_ascii_end hh st (by simp) fun h' e he ho => hE h' e ho fun b o hb q => he b o (fun h => hb (by simp [h])) q
theorem Draws.bytes (I : Addr) (b : Array UInt8) (t : Tok) : Draws I [I] [I] b.size (fun i v => ∃ c u, b[i]? = some c ∧ v = .int (c.toNat : Int) u) (fun i h => KBw.IsBytesIter h I b t i) where
  sub := fun _ hb => hb
  frame := fun _ _ _ st hk => let ⟨o, ho, r⟩ := st; ⟨o, hk I (by simp) o ho, r⟩
  live := fun _ _ st c hb => let ⟨o, ho, _⟩ := st; ⟨o, by rw [List.mem_singleton.mp hb]; exact ho⟩
  item := fun prog w A i s Q E hi st hQ => nextOf_bytes_item st (c := b[i]) (by simp [hi]) fun h' hit' hs' =>
    hQ _ h' _ ⟨_, _, by simp [hi], rfl⟩ hit' hs'.1 fun b o hb e => hs'.extBut b o (fun h => hb (by simp [h])) e
  done := fun prog w A s Q E hh st hE => nextOf_bytes_end hh st (by simp) fun h' e he ho => hE h' e ho fun b o hb q => he b o (fun h => hb (by simp [h])) q
theorem Draws.list (I l : Addr) (hne : l ≠ I) (items : Array Value) : Draws I [I, l] [I] items.size (fun i v => items[i]? = some v) (fun i h => h.IsListIter I l i ∧ h.IsList l items) where
  sub := fun _ hb => by rw [List.mem_singleton.mp hb]; simp
  frame := fun _ _ _ st hk => ⟨st.1.at fun o e => hk I (by simp) o e, st.2.at fun o e => hk l (by simp) o e⟩
  live := fun _ _ st b hb => by
    obtain ⟨⟨o, ho, _⟩, ⟨o', ho', _⟩⟩ := st
    rcases List.mem_cons.mp hb with rfl | hb
    · exact ⟨o, ho⟩
    · rw [List.mem_singleton.mp hb]; exact ⟨o', ho'⟩
  item := fun prog w A i s Q E hi st hQ => wpAny_nextOf_list_item st.1 st.2 (x := items[i]) (by simp [hi]) fun h' hit' hs' =>
    hQ _ h' s.toks (by simp [hi]) ⟨hit', st.2.extBut hs'.extBut hne⟩ hs'.1 fun b o hb e => hs'.extBut b o (fun h => hb (by simp [h])) e
  done := fun prog w A s Q E hh st hE => wpAny_nextOf_list_end hh st.1 st.2 (by simp) fun h' e he ho => hE h' e ho fun b o hb q => he b o (fun h => hb (by simp [h])) q
end Mine

end
section -- Zp2
open PySem PySem.W PyProof.Rows PySem.Calls
set_option Elab.async false
set_option maxRecDepth 100000
namespace Mine
structure ZA (z TI TO : Addr) (fp1 wr1 fp2 wr2 : List Addr) : Prop where
  TIz : TI ≠ z
  TOz : TO ≠ z
  TITO : TI ≠ TO
  z1 : z ∉ fp1
  z2 : z ∉ fp2
  TI1 : TI ∉ fp1
  TI2 : TI ∉ fp2
  TO1 : TO ∉ fp1
  TO2 : TO ∉ fp2
  a12 : ∀ b ∈ fp1, b ∉ wr2
  a21 : ∀ b ∈ fp2, b ∉ wr1
section
variable {prog : Program} {w : World} {A : Around} {E : Value → Shared → Prop} {s : Shared}
  {z TI TO i1 i2 : Addr} {fp1 wr1 fp2 wr2 : List Addr} {n1 n2 : Nat} {P1 P2 : Nat → Value → Prop} {St1 St2 : Nat → Heap → Prop}
theorem zipD_item {k1 k2 : Nat} {a b : Value} {Q : Value → Shared → Prop} (D : ZA z TI TO fp1 wr1 fp2 wr2) (D1 : Draws i1 fp1 wr1 n1 P1 St1) (D2 : Draws i2 fp2 wr2 n2 P2 St2)
    (hz : IsZip s.heap z TI TO .none) (hTI : IsPair s.heap TI (.ref i1) (.ref i2)) (hTO : IsPair s.heap TO a b)
    (h1 : St1 k1 s.heap) (h2 : St2 k2 s.heap) (hx : k1 < n1) (hy : k2 < n2)
    (hQ : ∀ x y h' tk, P1 k1 x → P2 k2 y → IsZip h' z TI TO (rawInt s.heap.objs.size) → IsPair h' TO x y → St1 (k1 + 1) h' → St2 (k2 + 1) h' → IsPair h' s.heap.objs.size x y → h'.objs.size = s.heap.objs.size + 1 →
      (∀ c o, c ≠ z → c ≠ TO → c ∉ wr1 → c ∉ wr2 → s.heap.get? c = some o → h'.get? c = some o) → Q (.ref s.heap.objs.size) { s with heap := h', toks := tk }) :
    wpAny (model prog w) A (Builtin.«zip.__next__» ⟨[.ref z], []⟩) (fun fin s' => ∃ v, fin = .done (.ret v) ∧ Q v s') E s := by
  show wpAny _ _ (field (.ref z) 2 >>= _) _ _ _
  refine wpAny_bind (wpAny_field hz rfl (x := .bool false) rfl ?_)
  show wpAny _ _ (field (.ref z) 3 >>= _) _ _ _
  refine wpAny_bind (wpAny_field hz rfl (x := .ref TI) rfl ?_)
  refine wpAny_bind (wpAny_seqItems hTI rfl ?_)
  show wpAny _ _ (Builtin.SmallTypes.ownedTupleIsFree (.ref z) >>= _) _ _ _
  refine wpAny_bind ?_
  unfold Builtin.SmallTypes.ownedTupleIsFree
  refine wpAny_bind (wpAny_field hz rfl (x := .none) rfl (wpAny_pure ?_))
  simp only [if_true]
  refine wpAny_bind (wpAny_rule ?_)
  refine wpAny_bind (wpAny_field hz rfl (x := .ref TO) rfl ?_)
  refine wpAny_bind (wpAny_setField_rec hz (by simp) fun h₁ hz₁ hs₁ => ?_)
  replace hz₁ : IsZip h₁ z TI TO .ellipsis := hz₁
  refine wpAny_bind ?_
  simp only [List.zipIdx_cons, List.zipIdx_nil, List.forIn_cons, List.forIn_nil]
  refine wpAny_bind (wpAny_bind (wpAny_onRaise ?_))
  show wpAny _ _ (Builtin.SmallTypes.nextOf (.ref i1) >>= _) _ _ _
  have z1' : z ∉ wr1 := fun h => D.z1 (D1.sub _ h)
  have z2' : z ∉ wr2 := fun h => D.z2 (D2.sub _ h)
  have t1' : TO ∉ wr1 := fun h => D.TO1 (D1.sub _ h)
  have t2' : TO ∉ wr2 := fun h => D.TO2 (D2.sub _ h)
  have st1 : St1 k1 h₁ := D1.frame _ _ _ h1 fun b hb o e => hs₁.extBut _ _ (fun q => D.z1 (q ▸ hb)) e
  refine wpAny_bind (D1.item _ _ _ k1 _ _ _ hx st1 fun x h₂ tk₂ hPx st1₂ hsz₂ hk₂ => wpAny_pure ?_)
  have hTO₂ : IsPair h₂ TO a b := hk₂ _ _ t1' (hs₁.extBut _ _ D.TOz hTO)
  refine wpAny_bind (wpAny_seqItems hTO₂ rfl ?_)
  refine wpAny_bind (wpAny_updateSeq_pair hTO₂ fun h₃ hTO₃ hs₃ => ?_)
  replace hTO₃ : IsPair h₃ TO x b := hTO₃
  refine wpAny_bind (wpAny_letGo (wpAny_pure ?_))
  refine wpAny_bind (wpAny_bind (wpAny_onRaise ?_))
  show wpAny _ _ (Builtin.SmallTypes.nextOf (.ref i2) >>= _) _ _ _
  have st2 : St2 k2 h₃ := D2.frame _ _ _ h2 fun b hb o e => hs₃.extBut _ _ (fun q => D.TO2 (q ▸ hb)) (hk₂ _ _ (D.a21 b hb) (hs₁.extBut _ _ (fun q => D.z2 (q ▸ hb)) e))
  refine wpAny_bind (D2.item _ _ _ k2 _ _ _ hy st2 fun y h₄ tk₄ hPy st2₄ hsz₄ hk₄ => wpAny_pure ?_)
  have hTO₄ : IsPair h₄ TO x b := hk₄ _ _ t2' hTO₃
  refine wpAny_bind (wpAny_seqItems hTO₄ rfl ?_)
  refine wpAny_bind (wpAny_updateSeq_pair hTO₄ fun h₅ hTO₅ hs₅ => ?_)
  replace hTO₅ : IsPair h₅ TO x y := hTO₅
  refine wpAny_bind (wpAny_letGo (wpAny_pure (wpAny_pure ?_)))
  refine wpAny_bind (wpAny_seqItems hTO₅ rfl ?_)
  refine wpAny_bind (wpAny_newTuple ?_)
  have hsz : h₅.objs.size = s.heap.objs.size := by rw [hs₅.1]; show h₄.objs.size = _; rw [hsz₄]; show h₃.objs.size = _; rw [hs₃.1]; show h₂.objs.size = _; rw [hsz₂]; show h₁.objs.size = _; rw [hs₁.1]
  have hz₅ : IsZip h₅ z TI TO .ellipsis := hs₅.extBut _ _ D.TOz.symm (hk₄ _ _ z2' (hs₃.extBut _ _ D.TOz.symm (hk₂ _ _ z1' hz₁)))
  have hk₅ : ∀ c o, c ≠ z → c ≠ TO → c ∉ wr1 → c ∉ wr2 → s.heap.get? c = some o → h₅.get? c = some o := fun c o c1 c2 c3 c4 e =>
    hs₅.extBut _ _ c2 (hk₄ _ _ c4 (hs₃.extBut _ _ c2 (hk₂ _ _ c3 (hs₁.extBut _ _ c1 e))))
  have h1₅ : St1 (k1 + 1) h₅ := D1.frame _ _ _ st1₂ fun b hb o e => hs₅.extBut _ _ (fun q => D.TO1 (q ▸ hb)) (hk₄ _ _ (D.a12 b hb) (hs₃.extBut _ _ (fun q => D.TO1 (q ▸ hb)) e))
  have h2₅ : St2 (k2 + 1) h₅ := D2.frame _ _ _ st2₄ fun b hb o e => hs₅.extBut _ _ (fun q => D.TO2 (q ▸ hb)) e
  have hzlt : z < h₅.objs.size := Heap.lt_size hz₅
  show wpAny _ _ (Builtin.SmallTypes.ownedTupleHandOut (.ref z) (.ref h₅.objs.size) >>= _) _ _ _
  refine wpAny_bind ?_
  unfold Builtin.SmallTypes.ownedTupleHandOut
  have hz₆ : IsZip (h₅.push { cls := .type "tuple", data := .seq #[x, y] }) z TI TO .ellipsis := Heap.get?_push_of_some _ hz₅
  refine wpAny_bind (wpAny_setField_rec hz₆ (by simp) fun h₇ hz₇ hs₇ => ?_)
  replace hz₇ : IsZip h₇ z TI TO (rawInt h₅.objs.size) := hz₇
  refine wpAny_setField_rec hz₇ (by simp) fun h₈ hz₈ hs₈ => ?_
  replace hz₈ : IsZip h₈ z TI TO (rawInt h₅.objs.size) := hz₈
  have up : ∀ c o, c ≠ z → h₅.get? c = some o → h₈.get? c = some o := fun c o c1 e => hs₈.extBut _ _ c1 (hs₇.extBut _ _ c1 (Heap.get?_push_of_some _ e))
  have hT₈ : IsPair h₈ h₅.objs.size x y := hs₈.extBut _ _ (Nat.ne_of_gt hzlt) (hs₇.extBut _ _ (Nat.ne_of_gt hzlt) (Heap.get?_push_size _ rfl))
  have hz8 : h₈.objs.size = h₅.objs.size + 1 := by rw [hs₈.1, hs₇.1, Heap.size_push]
  rw [hsz] at hz₈ hT₈ hz8
  refine wpAny_pure ⟨_, rfl, ?_⟩
  show Q (.ref h₅.objs.size) _
  rw [hsz]
  exact hQ x y h₈ _ hPx hPy hz₈ (up _ _ D.TOz hTO₅) (D1.frame _ _ _ h1₅ fun b hb o e => up _ o (fun q => D.z1 (q ▸ hb)) e) (D2.frame _ _ _ h2₅ fun b hb o e => up _ o (fun q => D.z2 (q ▸ hb)) e) hT₈ hz8
    fun c o c1 c2 c3 c4 e => up c o c1 (hk₅ c o c1 c2 c3 c4 e)
theorem zipD_end {k1 k2 : Nat} {a b : Value} {Q : Fin → Shared → Prop} (hh : A.handled = none) (D : ZA z TI TO fp1 wr1 fp2 wr2) (D1 : Draws i1 fp1 wr1 n1 P1 St1) (D2 : Draws i2 fp2 wr2 n2 P2 St2)
    (hz : IsZip s.heap z TI TO .none) (hTI : IsPair s.heap TI (.ref i1) (.ref i2)) (hTO : IsPair s.heap TO a b)
    (h1 : St1 k1 s.heap) (h2 : St2 k2 s.heap) (hend : k1 = n1 ∨ (k1 < n1 ∧ k2 = n2))
    (hE : ∀ h' tk e, (∀ c o, c ≠ z → c ≠ TO → c ∉ wr1 → c ∉ wr2 → s.heap.get? c = some o → h'.get? c = some o) → (∃ o, h'.get? e = some o ∧ o.cls = .type "StopIteration") → E (.ref e) { s with heap := h', toks := tk }) :
    wpAny (model prog w) A (Builtin.«zip.__next__» ⟨[.ref z], []⟩) Q E s := by
  show wpAny _ _ (field (.ref z) 2 >>= _) _ _ _
  refine wpAny_bind (wpAny_field hz rfl (x := .bool false) rfl ?_)
  show wpAny _ _ (field (.ref z) 3 >>= _) _ _ _
  refine wpAny_bind (wpAny_field hz rfl (x := .ref TI) rfl ?_)
  refine wpAny_bind (wpAny_seqItems hTI rfl ?_)
  show wpAny _ _ (Builtin.SmallTypes.ownedTupleIsFree (.ref z) >>= _) _ _ _
  refine wpAny_bind ?_
  unfold Builtin.SmallTypes.ownedTupleIsFree
  refine wpAny_bind (wpAny_field hz rfl (x := .none) rfl (wpAny_pure ?_))
  simp only [if_true]
  refine wpAny_bind (wpAny_rule ?_)
  refine wpAny_bind (wpAny_field hz rfl (x := .ref TO) rfl ?_)
  refine wpAny_bind (wpAny_setField_rec hz (by simp) fun h₁ hz₁ hs₁ => ?_)
  replace hz₁ : IsZip h₁ z TI TO .ellipsis := hz₁
  refine wpAny_bind ?_
  simp only [List.zipIdx_cons, List.zipIdx_nil, List.forIn_cons, List.forIn_nil]
  refine wpAny_bind (wpAny_bind (wpAny_onRaise ?_))
  show wpAny _ _ (Builtin.SmallTypes.nextOf (.ref i1) >>= _) _ _ _
  have z1' : z ∉ wr1 := fun h => D.z1 (D1.sub _ h)
  have z2' : z ∉ wr2 := fun h => D.z2 (D2.sub _ h)
  have t1' : TO ∉ wr1 := fun h => D.TO1 (D1.sub _ h)
  have t2' : TO ∉ wr2 := fun h => D.TO2 (D2.sub _ h)
  have st1 : St1 k1 h₁ := D1.frame _ _ _ h1 fun b hb o e => hs₁.extBut _ _ (fun q => D.z1 (q ▸ hb)) e
  rcases hend with hx | ⟨hx, hy⟩
  · rw [hx] at st1
    refine wpAny_bind (D1.done _ _ _ _ _ _ hh st1 fun h₂ e he hk₂ => ?_)
    obtain ⟨oe, hoe, hce⟩ := he
    have hz₂ : IsZip h₂ z TI TO .ellipsis := hk₂ _ _ z1' hz₁
    have hez : e ≠ z := fun x => by subst x; rw [hz₂] at hoe; cases hoe; simp at hce
    exact wpAny_setField_rec hz₂ (by simp) fun h₃ _ hs₃ => hE h₃ _ e (fun c o c1 _ c3 _ x => hs₃.extBut _ _ c1 (hk₂ _ _ c3 (hs₁.extBut _ _ c1 x))) ⟨oe, hs₃.extBut _ _ hez hoe, hce⟩
  · refine wpAny_bind (D1.item _ _ _ k1 _ _ _ hx st1 fun x h₂ tk₂ hPx st1₂ hsz₂ hk₂ => wpAny_pure ?_)
    have hTO₂ : IsPair h₂ TO a b := hk₂ _ _ t1' (hs₁.extBut _ _ D.TOz hTO)
    refine wpAny_bind (wpAny_seqItems hTO₂ rfl ?_)
    refine wpAny_bind (wpAny_updateSeq_pair hTO₂ fun h₃ hTO₃ hs₃ => ?_)
    refine wpAny_bind (wpAny_letGo (wpAny_pure ?_))
    refine wpAny_bind (wpAny_bind (wpAny_onRaise ?_))
    show wpAny _ _ (Builtin.SmallTypes.nextOf (.ref i2) >>= _) _ _ _
    have st2 : St2 k2 h₃ := D2.frame _ _ _ h2 fun b hb o e => hs₃.extBut _ _ (fun q => D.TO2 (q ▸ hb)) (hk₂ _ _ (D.a21 b hb) (hs₁.extBut _ _ (fun q => D.z2 (q ▸ hb)) e))
    rw [hy] at st2
    refine wpAny_bind (D2.done _ _ _ _ _ _ hh st2 fun h₄ e he hk₄ => ?_)
    obtain ⟨oe, hoe, hce⟩ := he
    have hz₄ : IsZip h₄ z TI TO .ellipsis := hk₄ _ _ z2' (hs₃.extBut _ _ D.TOz.symm (hk₂ _ _ z1' hz₁))
    have hez : e ≠ z := fun x => by subst x; rw [hz₄] at hoe; cases hoe; simp at hce
    exact wpAny_setField_rec hz₄ (by simp) fun h₅ _ hs₅ => hE h₅ _ e (fun c o c1 c2 c3 c4 x => hs₅.extBut _ _ c1 (hk₄ _ _ c4 (hs₃.extBut _ _ c2 (hk₂ _ _ c3 (hs₁.extBut _ _ c1 x))))) ⟨oe, hs₅.extBut _ _ hez hoe, hce⟩
theorem pyNext_zipD_item {k1 k2 : Nat} {a b : Value} {Q : Option Value → Shared → Prop} (D : ZA z TI TO fp1 wr1 fp2 wr2) (D1 : Draws i1 fp1 wr1 n1 P1 St1) (D2 : Draws i2 fp2 wr2 n2 P2 St2)
    (hz : IsZip s.heap z TI TO .none) (hTI : IsPair s.heap TI (.ref i1) (.ref i2)) (hTO : IsPair s.heap TO a b)
    (h1 : St1 k1 s.heap) (h2 : St2 k2 s.heap) (hx : k1 < n1) (hy : k2 < n2)
    (hQ : ∀ x y h' tk, P1 k1 x → P2 k2 y → IsZip h' z TI TO (rawInt s.heap.objs.size) → IsPair h' TO x y → St1 (k1 + 1) h' → St2 (k2 + 1) h' → IsPair h' s.heap.objs.size x y → h'.objs.size = s.heap.objs.size + 1 →
      (∀ c o, c ≠ z → c ≠ TO → c ∉ wr1 → c ∉ wr2 → s.heap.get? c = some o → h'.get? c = some o) → Q (some (.ref s.heap.objs.size)) { s with heap := h', toks := tk }) :
    wpAny (model prog w) A (pyNext (.ref z)) Q E s := by
  have hT : s.TypeIs (.ref z) "zip" := ⟨_, hz, rfl⟩
  unfold pyNext
  exact wpAny_bind (wpAny_attempt (wpAny_callSpecial?_slot (name := Str.ofString "__next__") hT F.slot_zip_next
    (wpAny_call_entry F.slot_zip_next hT F.entry_zip_next
      (zipD_item D D1 D2 hz hTI hTO h1 h2 hx hy fun x y h' tk a0 a00 a1 a2 a3 a4 a5 a6 a7 => wpAny_pure (hQ x y h' tk a0 a00 a1 a2 a3 a4 a5 a6 a7)) (F.args_zip_next_1 _))))
theorem pyNext_zipD_end {k1 k2 : Nat} {a b : Value} {Q : Option Value → Shared → Prop} (hh : A.handled = none) (D : ZA z TI TO fp1 wr1 fp2 wr2) (D1 : Draws i1 fp1 wr1 n1 P1 St1) (D2 : Draws i2 fp2 wr2 n2 P2 St2)
    (hz : IsZip s.heap z TI TO .none) (hTI : IsPair s.heap TI (.ref i1) (.ref i2)) (hTO : IsPair s.heap TO a b)
    (h1 : St1 k1 s.heap) (h2 : St2 k2 s.heap) (hend : k1 = n1 ∨ (k1 < n1 ∧ k2 = n2))
    (hQ : ∀ h' tk, (∀ c o, c ≠ z → c ≠ TO → c ∉ wr1 → c ∉ wr2 → s.heap.get? c = some o → h'.get? c = some o) → Q none { s with heap := h', toks := tk }) : wpAny (model prog w) A (pyNext (.ref z)) Q E s := by
  have hT : s.TypeIs (.ref z) "zip" := ⟨_, hz, rfl⟩
  unfold pyNext
  refine wpAny_bind (wpAny_attempt (wpAny_callSpecial?_slot (name := Str.ofString "__next__") hT F.slot_zip_next
    (wpAny_call_entry F.slot_zip_next hT F.entry_zip_next (zipD_end hh D D1 D2 hz hTI hTO h1 h2 hend fun h' tk e hk he => ?_) (F.args_zip_next_1 _))))
  obtain ⟨o, ho, hc⟩ := he
  refine wpAny_bind (wpAny_isInstance (T := "StopIteration") (b := true) ⟨o, ho, hc⟩ isSubtype_stop ?_)
  exact wpAny_pure (hQ _ _ hk)
end
theorem walksZip {prog : Program} {w : World} {A : Around} (hh : A.handled = none) {z TI TO i1 i2 : Addr} {fp1 wr1 fp2 wr2 : List Addr} {n1 n2 : Nat} {P1 P2 : Nat → Value → Prop} {St1 St2 : Nat → Heap → Prop}
    (D : ZA z TI TO fp1 wr1 fp2 wr2) (D1 : Draws i1 fp1 wr1 n1 P1 St1) (D2 : Draws i2 fp2 wr2 n2 P2 St2) :
    WalksU prog w A z (z :: TI :: TO :: (fp1 ++ fp2)) (z :: TO :: (wr1 ++ wr2)) (min n1 n2) (fun i vals => ∃ x y, P1 i x ∧ P2 i y ∧ vals = #[x, y])
      (fun i h => IsZip h z TI TO .none ∧ IsPair h TI (.ref i1) (.ref i2) ∧ (∃ a b, IsPair h TO a b) ∧ St1 i h ∧ St2 i h)
      (fun i T h => IsZip h z TI TO (rawInt T) ∧ IsPair h TI (.ref i1) (.ref i2) ∧ (∃ a b, IsPair h TO a b) ∧ St1 (i + 1) h ∧ St2 (i + 1) h ∧ T ∉ z :: TO :: (wr1 ++ wr2)) where
  sub := fun c hc => by
    rcases List.mem_cons.mp hc with rfl | hc
    · exact .head _
    · refine .tail _ (.tail _ ?_)
      rcases List.mem_cons.mp hc with rfl | hc
      · exact .head _
      · refine .tail _ ?_
        rcases List.mem_append.mp hc with hc | hc
        · exact List.mem_append_left _ (D1.sub _ hc)
        · exact List.mem_append_right _ (D2.sub _ hc)
  frame := fun i h h' ⟨hz, hTI, ⟨a, b, hTO⟩, h1, h2⟩ hk =>
    ⟨hk z (by simp) _ hz, hk TI (by simp) _ hTI, ⟨a, b, hk TO (by simp) _ hTO⟩, D1.frame _ _ _ h1 fun b hb o e => hk b (by simp [hb]) o e, D2.frame _ _ _ h2 fun b hb o e => hk b (by simp [hb]) o e⟩
  item := fun i s Q E hi hst hQ => by
    obtain ⟨hz, hTI, ⟨a, b, hTO⟩, h1, h2⟩ := hst
    refine pyNext_zipD_item D D1 D2 hz hTI hTO h1 h2 (Nat.lt_of_lt_of_le hi (Nat.min_le_left ..)) (Nat.lt_of_lt_of_le hi (Nat.min_le_right ..)) fun x y h' tk px py a1 a2 a3 a4 a5 a6 hk => ?_
    have nf : ∀ c, (∃ o, s.heap.get? c = some o) → s.heap.objs.size ≠ c := fun c ⟨o, e⟩ => Nat.ne_of_gt (Heap.lt_size e)
    refine hQ s.heap.objs.size #[x, y] h' tk ⟨x, y, px, py, rfl⟩ ⟨_, a5, rfl, _, rfl⟩ ⟨a1, hk _ _ D.TIz D.TITO (fun q => D.TI1 (D1.sub _ q)) (fun q => D.TI2 (D2.sub _ q)) hTI, ⟨_, _, a2⟩, a3, a4, fun hm => ?_⟩
      fun c o hc e => hk c o (fun x => hc (by simp [x])) (fun x => hc (by simp [x])) (fun x => hc (by simp [x])) (fun x => hc (by simp [x])) e
    rcases List.mem_cons.mp hm with e | hm
    · exact nf z ⟨_, hz⟩ e
    · rcases List.mem_cons.mp hm with e | hm
      · exact nf TO ⟨_, hTO⟩ e
      · rcases List.mem_append.mp hm with hm | hm
        · exact nf _ (D1.live _ _ h1 _ (D1.sub _ hm)) rfl
        · exact nf _ (D2.live _ _ h2 _ (D2.sub _ hm)) rfl
  go := fun elts k pos i T s Q E hm hQ => by
    obtain ⟨hz, hTI, ⟨a, b, hTO⟩, h1, h2, _⟩ := hm
    refine wpAny_letOwnedTupleGo_zip hz fun h' hz' hs' => hQ h' ⟨hz', hs'.extBut _ _ D.TIz hTI, ⟨a, b, hs'.extBut _ _ D.TOz hTO⟩, D1.frame _ _ _ h1 fun b hb o e => hs'.extBut _ _ (fun q => D.z1 (q ▸ hb)) e,
      D2.frame _ _ _ h2 fun b hb o e => hs'.extBut _ _ (fun q => D.z2 (q ▸ hb)) e⟩ fun c o hc e => hs'.extBut _ _ (fun x => hc (by simp [x])) e
  apart := fun i T h hm hT => hm.2.2.2.2.2 hT
  done := fun s Q E hst hQ => by
    obtain ⟨hz, hTI, ⟨a, b, hTO⟩, h1, h2⟩ := hst
    have hend : min n1 n2 = n1 ∨ (min n1 n2 < n1 ∧ min n1 n2 = n2) := by omega
    exact pyNext_zipD_end hh D D1 D2 hz hTI hTO h1 h2 hend fun h' tk hk => hQ h' tk fun c o hc e =>
      hk c o (fun x => hc (by simp [x])) (fun x => hc (by simp [x])) (fun x => hc (by simp [x])) (fun x => hc (by simp [x])) e
  self := fun i s Q E hst hQ => wpAny_pyIter_zip hst.1 hQ
end Mine

end
section -- Zp3
open PySem PySem.W PyProof.Rows PySem.Calls
set_option Elab.async false
set_option maxRecDepth 100000
namespace Mine
abbrev pairO (a b : Value) : Obj := { cls := .type "tuple", data := .seq #[a, b] }
abbrev zipO (TI TO : Addr) : Obj := { cls := .type "zip", data := .fields #[.none, .bool false, .bool false, .ref TI, .ref TO] }
abbrev zipHeap (h : Heap) (it1 it2 : Value) : Heap := ((h.push (pairO it1 it2)).push (pairO .none .none)).push (zipO h.objs.size (h.push (pairO it1 it2)).objs.size)
/-- zip(a, b): the two are asked for their iterators, then three objects are made -/
theorem meets_zipG (v1 v2 : Value) :
    Meets (Builtin.«zip.__new__» ⟨[.type "zip", v1, v2], []⟩) (fun A R s => ∀ (prog : Program) (w : World), wpAny (model prog w) A.in1 (pyIter v1) (fun it1 s₁ => wpAny (model prog w) A.in1 (pyIter v2) (fun it2 s₂ =>
      R (.ok (.ret (.ref ((s₂.heap.push (pairO it1 it2)).push (pairO .none .none)).objs.size))) { s₂ with heap := zipHeap s₂.heap it1 it2 }) (fun e s' => R (.error e) s') s₁) (fun e s' => R (.error e) s') s) :=
  .of_wp fun prog w A R s h => by
    have hsub := sub_zip
    have h := h prog w
    have h' : ∀ Q : Value → Shared → Prop, (∀ it1 s₁, wpAny (model prog w) A.in1 (pyIter v2) (fun it2 s₂ =>
      R (.ok (.ret (.ref ((s₂.heap.push (pairO it1 it2)).push (pairO .none .none)).objs.size))) { s₂ with heap := zipHeap s₂.heap it1 it2 }) (fun e s' => R (.error e) s') s₁ → Q it1 s₁) →
      wpAny (model prog w) A.in1 (pyIter v1) Q (fun e s' => R (.error e) s') s := fun Q hq => wpAny_mono h hq fun _ _ x => x
    wp_walk using h' _
    intro it1 s₁ h₁
    have h₁' : ∀ Q : Value → Shared → Prop, (∀ it2 s₂, R (.ok (.ret (.ref ((s₂.heap.push (pairO it1 it2)).push (pairO .none .none)).objs.size))) { s₂ with heap := zipHeap s₂.heap it1 it2 } → Q it2 s₂) →
      wpAny (model prog w) A.in1 (pyIter v2) Q (fun e s' => R (.error e) s') s₁ := fun Q hq => wpAny_mono h₁ hq fun _ _ x => x
    wp_walk using h₁' _
    intro it2 s₂ h₂
    wp_walk
    exact ⟨_, rfl, h₂⟩
theorem call_zipG {prog : Program} {w : World} {A : Around} {E : Value → Shared → Prop} {s : Shared} {v1 v2 : Value} {Q : Value → Shared → Prop}
    (h : ∀ (prog : Program) (w : World), wpAny (model prog w) A.in1.in1 (pyIter v1) (fun it1 s₁ => wpAny (model prog w) A.in1.in1 (pyIter v2) (fun it2 s₂ =>
      Q (.ref ((s₂.heap.push (pairO it1 it2)).push (pairO .none .none)).objs.size) { s₂ with heap := zipHeap s₂.heap it1 it2 }) E s₁) E s) :
    wpAny (model prog w) A (call (.type "zip") [v1, v2]) Q E s :=
  callType_new F.called_zip (by decide) (F.typeCall_zip_2 _ _) (F.newCall_zip_2 _ _) (fun obj => F.args_object_init_3 obj _ _) F.entry_zip_new (meets_zipG v1 v2)
    fun prog w => wpAny_mono (h prog w) (fun it1 s₁ h₁ => wpAny_mono h₁ (fun it2 s₂ h₂ => ⟨⟨_, Heap.get?_push_size _ rfl, rfl⟩, h₂⟩) fun _ _ x => x) fun _ _ x => x
end Mine

end
section -- KwT
open PySem PySem.W PyProof.Rows PySem.Calls
set_option Elab.async false
set_option maxRecDepth 100000
namespace Mine
/-- the signs of a line -/
def alpha : List Nat := [97, 9, 32, 98, 10]
def Alpha (x : Str) : Prop := ∀ c ∈ x.cps.toList, c ∈ alpha
def tagsA : List Nat := [32, 94, 45, 43]
def TagA (y : Str) : Prop := ∀ c ∈ y.cps.toList, c ∈ tagsA
theorem alpha_ascii {x : Str} (h : Alpha x) : x.cps.all (· < 128) = true := by
  rw [Array.all_eq_true']
  intro c hc
  have := h c (by simpa using hc)
  simp [alpha] at this
  rcases this with rfl | rfl | rfl | rfl | rfl <;> decide
theorem tags_ascii {y : Str} (h : TagA y) : y.cps.all (· < 128) = true := by
  rw [Array.all_eq_true']
  intro c hc
  have := h c (by simpa using hc)
  simp [tagsA] at this
  rcases this with rfl | rfl | rfl | rfl <;> decide
theorem alpha_space {c : Nat} (h : c ∈ alpha) : Txt.isspace ⟨#[c]⟩ = !(wsE ⟨#[c]⟩) := by
  simp [alpha] at h
  rcases h with rfl | rfl | rfl | rfl | rfl <;> decide +kernel
theorem item_at {x : Str} {i c : Nat} (h : x.cps[i]? = some c) : Txt.item x (i : Int) = ⟨#[c]⟩ := item_meets (Int.natCast_nonneg _) (by simpa using h)
theorem sgn_str {x y : Str} {i c d : Nat} {t u : Tok} (ha : Alpha x) (hx : x.cps[i]? = some c) (hy : y.cps[i]? = some d) :
    ∃ v, (if ((⟨#[d]⟩ : Str) == Str.ofString " ") = true then (if Txt.isspace ⟨#[c]⟩ = true then Value.str ⟨#[c]⟩ t else .str ⟨#[d]⟩ u) else .str ⟨#[d]⟩ u) = .str (sgn x y i) v := by
  have hc : c ∈ alpha := ha c (by have := Array.mem_of_getElem? hx; simpa using this)
  unfold sgn blank
  rw [item_at hx, item_at hy, alpha_space hc]
  cases (⟨#[d]⟩ : Str) == Str.ofString " " with
  | false => exact ⟨u, rfl⟩
  | true =>
    cases e : wsE ⟨#[c]⟩ with
    | false => exact ⟨t, rfl⟩
    | true => exact ⟨u, rfl⟩
theorem sgn_int {x y : Str} {i d : Nat} (hy : y.cps[i]? = some d) (hb : ((⟨#[d]⟩ : Str) == Str.ofString " ") = false) : sgn x y i = ⟨#[d]⟩ := by
  unfold sgn blank
  rw [item_at hy, hb]
  rfl
theorem sgn_len (x y : Str) (k : Int) : (sgn x y k).length = 1 := by
  unfold sgn
  split
  · split <;> rfl
  · rfl
/-- the first blank tag -/
def firstB (y : Str) : Nat → Nat → Nat
  | 0, i => i
  | k + 1, i => if blank y i = true then i else firstB y k (i + 1)
theorem firstB_spec (y : Str) : ∀ (k i : Nat), i ≤ firstB y k i ∧ firstB y k i ≤ i + k ∧ (∀ j, i ≤ j → j < firstB y k i → blank y j = false) ∧ (firstB y k i < i + k → blank y (firstB y k i) = true)
  | 0, i => ⟨Nat.le_refl _, Nat.le_refl _, fun j h1 h2 => absurd h2 (Nat.not_lt.mpr h1), fun h => absurd h (Nat.lt_irrefl _)⟩
  | k + 1, i => by
    unfold firstB
    by_cases h : blank y i = true
    · rw [if_pos h]
      exact ⟨Nat.le_refl _, Nat.le_add_right _ _, fun j h1 h2 => absurd h2 (Nat.not_lt.mpr h1), fun _ => h⟩
    · rw [if_neg h]
      obtain ⟨a, b, c, d⟩ := firstB_spec y k (i + 1)
      refine ⟨by omega, by omega, fun j h1 h2 => ?_, fun h2 => d (by omega)⟩
      by_cases e : j = i
      · subst e; exact Bool.not_eq_true _ |>.mp h
      · exact c j (by omega) h2
/-- how many items the generator expression gives -/
def cntOf (x y : Str) (k : Int) : Nat := if k = 2 then firstB y (minL x y) 0 else minL x y
theorem cnt_le (x y : Str) (k : Int) : cntOf x y k ≤ minL x y := by
  unfold cntOf
  split
  · have := (firstB_spec y (minL x y) 0).2.1; omega
  · exact Nat.le_refl _
theorem cnt_lt {x y : Str} {k : Int} : cntOf x y k < minL x y ↔ (k = 2 ∧ blankIn x y = true) := by
  unfold cntOf
  obtain ⟨a, b, c, d⟩ := firstB_spec y (minL x y) 0
  constructor
  · intro h
    split at h
    · exact ⟨by assumption, blankIn_true.mpr ⟨_, h, d (by omega)⟩⟩
    · omega
  · rintro ⟨h, hb⟩
    rw [if_pos h]
    obtain ⟨j, hj, e⟩ := blankIn_true.mp hb
    by_cases q : firstB y (minL x y) 0 < minL x y
    · exact q
    · have := c j (Nat.zero_le _) (by omega)
      rw [e] at this; cases this
theorem cnt_blank {x y : Str} {i : Nat} (h : i < cntOf x y 2) : blank y i = false := by
  unfold cntOf at h
  rw [if_pos rfl] at h
  exact (firstB_spec y (minL x y) 0).2.2.1 i (Nat.zero_le _) h
theorem cnt_bad {x y : Str} (h : cntOf x y 2 < minL x y) : blank y (cntOf x y 2 : Nat) = true := by
  unfold cntOf at h ⊢
  rw [if_pos rfl] at h ⊢
  exact (firstB_spec y (minL x y) 0).2.2.2 (by omega)
theorem append_empty (x : Str) : x ++ Str.ofString "" = x := by
  have e : Str.ofString "" = Str.empty := by decide +kernel
  rw [e]
  exact Str.append_empty x
theorem empty_append' (x : Str) : Str.ofString "" ++ x = x := by
  have e : Str.ofString "" = Str.empty := by decide +kernel
  rw [e]
  exact Str.empty_append x
theorem join_snoc (c : Str) : ∀ l : List Str, Str.join (Str.ofString "") (l ++ [c]) = Str.join (Str.ofString "") l ++ c
  | [] => (empty_append' c).symm.trans (by rw [show Str.ofString "" = Str.empty from by decide +kernel]; rfl)
  | [a] => by
    show a ++ Str.ofString "" ++ c = a ++ c
    rw [append_empty]
  | a :: b :: l => by
    show a ++ Str.ofString "" ++ Str.join (Str.ofString "") ((b :: l) ++ [c]) = (a ++ Str.ofString "" ++ Str.join (Str.ofString "") (b :: l)) ++ c
    rw [join_snoc c (b :: l)]; simp only [Str.append_assoc]
theorem lay_join (x y : Str) : ∀ n : Nat, Txt.join (Str.ofString "") ((List.range n).map fun j : Nat => sgn x y (j : Int)) = layN x y n
  | 0 => by
    show Txt.join (Str.ofString "") [] = Str.ofString ""
    decide +kernel
  | n + 1 => by
    have e := lay_join x y n
    unfold Txt.join at e ⊢
    rw [StrLaws.glued_eq_join] at e ⊢
    rw [List.range_succ, List.map_append, List.map_singleton, join_snoc, e]
    rfl
theorem foldl_len (x y : Str) : ∀ (n a : Nat), ((List.range n).map fun j : Nat => sgn x y (j : Int)).foldl (fun b (c : Str) => b + c.length + (Str.ofString "").length) a = a + n
  | 0, a => rfl
  | n + 1, a => by
    rw [List.range_succ, List.map_append, List.map_singleton, List.foldl_append, foldl_len x y n a]
    show a + n + (sgn x y n).length + (Str.ofString "").length = a + (n + 1)
    rw [sgn_len, show (Str.ofString "").length = 0 from by decide +kernel]
    omega
theorem join_ok (x y : Str) (n : Nat) (h : n ≤ 1000) : JoinOk (Str.ofString "") ((List.range n).map fun j : Nat => sgn x y (j : Int)) = true := by
  unfold JoinOk Builtin.Str.tooLong
  rw [List.foldl_toArray, foldl_len]
  have : n ≤ sizeLine := by rw [sizeLine_eq]; omega
  simp [this]
end Mine

end
section -- KwZ0
open PySem PySem.W PyProof.Rows PySem.Calls
set_option Elab.async false
set_option maxRecDepth 100000
namespace Mine
/-- a line, in one of the four ways -/
inductive Src (h : Heap) (x : Str) : Value → Int → Prop
  | str (t : Tok) : Src h x (.str x t) 0
  | list (a : Addr) (vs : Array Value) : h.IsList a vs → vs.size = x.cps.size → (∀ (i : Nat) (v : Value), vs[i]? = some v → ∃ c u, x.cps[i]? = some c ∧ v = Value.str ⟨#[c]⟩ u) → Src h x (.ref a) 1
  | bytes (b : Array UInt8) (t : Tok) : b.size = x.cps.size → Src h x (.bytes b t) 2
  | none : Src h x .none 3
theorem Src.keeps {h h' : Heap} {x : Str} {v : Value} {k : Int} (S : Src h x v k) (hk : ∀ b o, b ≠ 248 → h.get? b = some o → h'.get? b = some o) (ht : HasTab h) : Src h' x v k := by
  cases S with
  | str t => exact .str t
  | list a vs l e r =>
    refine .list a vs ?_ e r
    obtain ⟨o, ho, hc, q⟩ := l
    refine ⟨o, hk a o (fun n => ?_) ho, hc, q⟩
    obtain ⟨ps, _, t⟩ := ht
    rw [n, t] at ho; cases ho; cases hc
  | bytes b t e => exact .bytes b t e
  | none => exact .none
section
variable {prog : Program} {w : World} {A : Around} {E : Value → Shared → Prop} {s : Shared} {x : Str} {v : Value} {k : Int} {Q : Value → Shared → Prop}
theorem src_iter (S : Src s.heap x v k) (hk : k ≠ 3) (ha : Alpha x) (ht : HasTab s.heap)
    (hQ : ∀ I fp P St h₁, Draws I fp [I] x.cps.size P St → St 0 h₁ → I = s.heap.objs.size → h₁.objs.size = I + 1 → (∀ b ∈ fp, b ≤ I) → (∀ b ∈ fp, b ≠ 248) → (∀ b o, s.heap.get? b = some o → h₁.get? b = some o) →
      (k = 2 → ∀ i va, P i va → ∃ n u, va = .int n u) → (k ≠ 2 → ∀ i va, P i va → ∃ c u, x.cps[i]? = some c ∧ va = .str ⟨#[c]⟩ u) → Q (.ref I) { s with heap := h₁ }) :
    wpAny (model prog w) A (pyIter v) Q E s := by
  have i8 : s.heap.objs.size ≠ 248 := fun q => by
    obtain ⟨ps, _, t⟩ := ht
    exact absurd (Heap.lt_size t) (by rw [q]; exact Nat.lt_irrefl _)
  cases S with
  | str t =>
    refine wpAny_pyIter_ascii (alpha_ascii ha) (hQ _ _ _ _ _ (Draws.str s.heap.objs.size x t) ⟨_, Heap.get?_push_size _ rfl, rfl, rfl⟩ rfl (Heap.size_push ..) (fun b hb => by rw [List.mem_singleton.mp hb]; exact Nat.le_refl _) (fun b hb => by rw [List.mem_singleton.mp hb]; exact i8)
      (fun b o e => Heap.get?_push_of_some _ e) (fun e => by omega) fun _ i va h => h)
  | list a vs l e r =>
    have hlt : a < s.heap.objs.size := by obtain ⟨o, ho, _⟩ := l; exact Heap.lt_size ho
    refine wpAny_pyIter_list l (hQ _ _ _ _ _ (e ▸ Draws.list s.heap.objs.size a (Nat.ne_of_lt hlt) vs) ⟨⟨_, Heap.get?_push_size _ rfl, rfl, rfl⟩, l.push _⟩ rfl (Heap.size_push ..) (fun b hb => ?_) (fun b hb => ?_)
      (fun b o e => Heap.get?_push_of_some _ e) (fun e => by omega) fun _ i va h => r i va h)
    · rcases List.mem_cons.mp hb with rfl | hb
      · exact Nat.le_refl _
      · rw [List.mem_singleton.mp hb]; exact Nat.le_of_lt hlt
    · rcases List.mem_cons.mp hb with rfl | hb
      · exact i8
      · rw [List.mem_singleton.mp hb]
        intro q
        obtain ⟨ps, _, t⟩ := ht
        obtain ⟨o, ho, hc, _⟩ := l
        rw [q, t] at ho; cases ho; cases hc
  | bytes b t e =>
    refine KBw.pyIter_bytes (hQ _ _ _ _ _ (e ▸ Draws.bytes s.heap.objs.size b t) ⟨_, Heap.get?_push_size _ rfl, rfl, rfl⟩ rfl (Heap.size_push ..) (fun b hb => by rw [List.mem_singleton.mp hb]; exact Nat.le_refl _) (fun b hb => by rw [List.mem_singleton.mp hb]; exact i8)
      (fun b o e => Heap.get?_push_of_some _ e) (fun _ i va h => ?_) fun h => absurd rfl h)
    obtain ⟨c, u, _, rfl⟩ := h
    exact ⟨_, u, rfl⟩
  | none => exact absurd rfl hk
theorem none_no_iter : typeLookup (.type "NoneType") "__iter__" = pure none := by rw [typeLookup_type, builtinLookup_eq_fast]; kernel_rfl
theorem none_no_item : typeLookup (.type "NoneType") "__getitem__" = pure none := by rw [typeLookup_type, builtinLookup_eq_fast]; kernel_rfl
theorem iter_none (hA : A.handled = none) (hE : ∀ h' tk e, NewX s.heap h' e "TypeError" → E (.ref e) { s with heap := h', toks := tk }) : wpAny (model prog w) A (pyIter .none) Q E s := by
  have hT : s.TypeIs .none "NoneType" := rfl
  unfold pyIter
  refine wpAny_bind (wpAny_specialOf hT none_no_iter ?_)
  refine wpAny_bind (wpAny_specialOf hT none_no_item ?_)
  refine wpAny_bind (wpAny_rule ?_)
  refine wpAny_bind (wpAny_typeNameOf' hT (by decide) ?_)
  exact wpAny_raiseTypeError hA (fun h' tk e x => hE h' tk e (NewX.of x)) (by rw [sizeLine_eq]; exact Nat.le_of_ble_eq_true (by decide +kernel))
end
end Mine

end
section -- KwZ
open PySem PySem.W PyProof.Rows PySem.Calls
set_option Elab.async false
set_option maxRecDepth 100000
namespace Mine
structure SameG (s s' : Shared) : Prop where
  bare : AllBare s.gens → AllBare s'.gens
  gens : ∀ i : Nat, i < s.gens.size → s'.gens[i]? = s.gens[i]?
  os : s'.os = s.os
  drawn : s'.drawn = s.drawn
structure SameT (s s' : Shared) : Prop extends SameG s s' where
  keep : KeepT s.heap s'.heap
  tab : HasTab s'.heap
theorem SameG.of_push {s s' : Shared} {gs : GenState} (hb : gs.bare = true) (hg : GenOnlyQ s.gens.size (s.gens.push gs) s'.gens) (ho : s'.os = s.os) (hd : s'.drawn = s.drawn) : SameG s s' where
  bare := fun x => hg.bare (x.push hb)
  gens := fun i hi => by
    have e : (s.gens.push gs)[i]? = s.gens[i]? := by rw [Array.getElem?_push_lt hi]; simp [hi]
    rcases hg with q | ⟨q, _⟩
    · rw [q, e]
    · rw [q.2 i (Nat.ne_of_lt hi), e]
  os := ho
  drawn := hd
section
variable {prog : Program} {w : World} {A : Around} {E : Value → Shared → Prop} {s : Shared}
theorem seg_gxStart {elt iter : Expr} {xa xb : Str} {pa pb pt : Pos} {kt : Nat} {scope : Scope} {pos : Pos} {I : Addr} {fp wr : List Addr} {n₀ k : Nat} {Pt : Nat → Array Value → Prop} {St₀ : Nat → Heap → Prop} {Mid : Nat → Addr → Heap → Prop} {cenv : Env} {R : GenEnd} {Y : Protocol} {s₀ : Shared}
    (hh : A.handled = none) (W₀ : ∀ A' : Around, A'.handled = none → WalksU prog w A' I fp wr n₀ Pt St₀ Mid) (hst : St₀ 0 s.heap)
    (loop : Seg (model prog w) A R Y k s₀ (.compLoop (.GeneratorExp elt [⟨.Tuple [.Name xa pa, .Name xb pb] kt pt, iter, [], 0⟩] scope pos) 0 (.ref I) .none cenv)
        ((model prog w).den (.compLoop (.GeneratorExp elt [⟨.Tuple [.Name xa pa, .Name xb pb] kt pt, iter, [], 0⟩] scope pos) 0 (.ref I) .none cenv)) [] s) :
    Seg (model prog w) A R Y k s₀ (.compStart (.GeneratorExp elt [⟨.Tuple [.Name xa pa, .Name xb pb] kt pt, iter, [], 0⟩] scope pos) 0 (.ref I) .none cenv)
      ((model prog w).den (.compStart (.GeneratorExp elt [⟨.Tuple [.Name xa pa, .Name xb pb] kt pt, iter, [], 0⟩] scope pos) 0 (.ref I) .none cenv)) [] s := by
  have hh' : (A.over (.compStart (.GeneratorExp elt [⟨.Tuple [.Name xa pa, .Name xb pb] kt pt, iter, [], 0⟩] scope pos) 0 (.ref I) .none cenv) []).handled = none := hh
  show Seg _ A _ _ _ s₀ _ ((compStart (.GeneratorExp elt [⟨.Tuple [.Name xa pa, .Name xb pb] kt pt, iter, [], 0⟩] scope pos) 0 (.ref I) .none cenv).onRaise (leaving cenv)) [] s
  unfold compStart
  rw [Sem.onRaise_eq_wrap]
  show Seg _ A _ _ _ s₀ _ ((ask >>= _).wrap _ _ _ _) [] s
  refine seg_bind_wrap (wpAny_askSetting ?_)
  split
  · exact seg_again rfl loop
  · first
      | exact seg_bind_wrap (wpAny_rule (seg_bind_wrap (wpAny_standAt (seg_bind_wrap ((W₀ _ hh').self 0 s _ _ hst (seg_again rfl loop))))))
      | (refine seg_bind_wrap (wpAny_rule ?_); show Seg _ A _ _ _ s₀ _ ((standAt iter.pos >>= _).wrap _ _ _ _) [] s; exact seg_bind_wrap (wpAny_standAt (seg_bind_wrap ((W₀ _ hh').self 0 s _ _ hst (seg_again rfl loop)))))
/-- what the element gives -/
theorem kw_el {x y : Str} {k : Int} {P1 P2 : Nat → Value → Prop} {cenv : Env} {p1 p2 p3 p4 p5 p6 p7 p8 p9 p10 : Pos} (ha : Alpha x)
    (hk : cenv.scope.kind = .function) (hc : cenv.kindOf (Str.ofString "c") = some .local) (hd : cenv.kindOf (Str.ofString "tag_c") = some .local) (hl : (p5.endLine == p6.line) = true)
    (h2 : k = 2 → ∀ i va, P1 i va → ∃ n u, va = .int n u) (h0 : k ≠ 2 → ∀ i va, P1 i va → ∃ c u, x.cps[i]? = some c ∧ va = .str ⟨#[c]⟩ u) (hP2 : ∀ i va, P2 i va → ∃ c u, y.cps[i]? = some c ∧ va = .str ⟨#[c]⟩ u) :
    ElX prog w cenv (Str.ofString "c") (Str.ofString "tag_c") (eltE p1 p2 p3 p4 p5 p6 p7 p8 p9 p10) (minL x y) (cntOf x y k) (fun i vals => ∃ a b, P1 i a ∧ P2 i b ∧ vals = #[a, b]) (fun i v => ∃ u, v = .str (sgn x y i) u) "AttributeError" where
  item := fun A' E' i va vb s₂ m₂ hA hi hP hn m1 m2 => by
    obtain ⟨a, b, pa, pb, e⟩ := hP
    obtain ⟨rfl, rfl⟩ : va = a ∧ vb = b := by simpa using e
    obtain ⟨d, u, hy, rfl⟩ := hP2 i _ pb
    by_cases q : k = 2
    · subst q
      have hb : ((⟨#[d]⟩ : Str) == Str.ofString " ") = false := by
        have := cnt_blank hi
        unfold blank at this
        rw [item_at hy] at this; exact this
      refine elt_int (cv := .none) hk hd hn m2 hb ⟨⟨u, by rw [sgn_int hy hb]⟩, ⟨s₂.heap, _, rfl, fun _ _ e => e⟩⟩
    · obtain ⟨c, t, hx, rfl⟩ := h0 q i _ pa
      refine elt_str hk hc hd hn m1 m2 hl ⟨?_, ⟨s₂.heap, _, rfl, fun _ _ e => e⟩⟩
      exact sgn_str ha hx hy
  bad := fun A' Q' va vb s₂ m₂ hA hlt hP hn m1 m2 => by
    obtain ⟨q, _⟩ := cnt_lt.mp hlt
    subst q
    obtain ⟨a, b, pa, pb, e⟩ := hP
    obtain ⟨rfl, rfl⟩ : va = a ∧ vb = b := by simpa using e
    obtain ⟨d, u, hy, rfl⟩ := hP2 _ _ pb
    obtain ⟨n, t, rfl⟩ := h2 rfl _ _ pa
    have hb : ((⟨#[d]⟩ : Str) == Str.ofString " ") = true := by
      have := cnt_bad hlt
      unfold blank at this
      rw [item_at hy] at this; exact this
    exact elt_bad hA hk hc hd hn m1 m2 hb hl fun h' tk e x => ⟨e, h', tk, rfl, rfl, x⟩
end
end Mine

end
section -- KwZ2
open PySem PySem.W PyProof.Rows PySem.Calls
set_option Elab.async false
set_option maxRecDepth 100000
namespace Mine
theorem nlt {h : Heap} {a : Nat} {o : Obj} (e : h.get? a = some o) : @LT.lt Nat _ a h.objs.size := Heap.lt_size e
theorem nmem {a b : Nat} (h : a ∈ [b]) : @Eq Nat a b := List.mem_singleton.mp h
theorem nne {a b : Nat} (h : ¬ @Eq Nat a b) : @Ne Addr a b := h
abbrev gexp (p1 p2 p3 p4 p5 p6 p7 p8 p9 p10 pa pb pt : Pos) (iter : Expr) (scope : Scope) (pos : Pos) : Expr :=
  .GeneratorExp (eltE p1 p2 p3 p4 p5 p6 p7 p8 p9 p10) [⟨.Tuple [.Name (Str.ofString "c") pa, .Name (Str.ofString "tag_c") pb] 0 pt, iter, [], 0⟩] scope pos
/-- what join then does with the generator a -/
def KwJoin (prog : Program) (w : World) (A : Around) (a : Addr) (x y : Str) (k : Int) (outer : List Env) (s s₅ : Shared) : Prop :=
  ∀ (t : Tok) (Q' E' : Value → Shared → Prop), (¬ (k = 2 ∧ blankIn x y = true) → ∀ t' s', SameT s s' → Q' (.str (layN x y (minL x y)) t') s') →
    ((k = 2 ∧ blankIn x y = true) → ∀ e s', SameG s s' → Fly (hideAll s.heap [248]) outer e "AttributeError" s'.heap → E' (.ref e) s') →
    wpAny (model prog w) A (call (.builtin "str.join") [.str (Str.ofString "") t, .ref a]) Q' E' s₅
section
variable {prog : Program} {w : World} {A : Around} {E : Value → Shared → Prop} {s : Shared} {base : Heap} {outer : List Env} {x y : Str} {k : Int}
theorem kw_made {h3 h' : Heap} {z TI TO I1 I2 : Nat} {fp1 : List Nat} {P1 P2 : Nat → Value → Prop} {St1 St2 : Nat → Heap → Prop} {env : Env} {scope : Scope} {iter : Expr} {pos : Pos} {code : Value} {tk : Nat} {nm qn : Value}
    {p1 p2 p3 p4 p5 p6 p7 p8 p9 p10 pa pb pt : Pos} (ha : Alpha x) (hx : x.length ≤ 100) (hh : A.handled = none) (hfr : A.frames = some outer) (hroom : A.depth + 4 < recursionLimit)
    (hfun : s.heap.FunFrames base outer) (ht : HasTab s.heap) (hlim : s.heap.NoLimit)
    (hkind : scope.kind = .function) (hsc : scope.names.lookup (Str.ofString "c") = some .local) (hst : scope.names.lookup (Str.ofString "tag_c") = some .local) (hco : scope.isCoroutine = false) (hl : (p5.endLine == p6.line) = true)
    (D1 : Draws I1 fp1 [I1] x.cps.size P1 St1) (D2 : Draws I2 [I2] [I2] y.cps.size P2 St2)
    (h2 : k = 2 → ∀ i va, P1 i va → ∃ n u, va = .int n u) (h0 : k ≠ 2 → ∀ i va, P1 i va → ∃ c u, x.cps[i]? = some c ∧ va = .str ⟨#[c]⟩ u) (hP2 : ∀ i va, P2 i va → ∃ c u, y.cps[i]? = some c ∧ va = .str ⟨#[c]⟩ u)
    (eI1 : I1 = s.heap.objs.size) (eI2 : I2 = s.heap.objs.size + 1) (eTI : TI = s.heap.objs.size + 2) (eTO : TO = s.heap.objs.size + 3) (ez : z = s.heap.objs.size + 4) (hf1 : ∀ b : Nat, b ∈ fp1 → b ≤ I1)
    (hz : IsZip h3 z TI TO .none) (hTI : IsPair h3 TI (.ref I1) (.ref I2)) (hTO : IsPair h3 TO .none .none) (hs1 : St1 0 h3) (hs2 : St2 0 h3) (hk3 : KeepT s.heap h3) (ht3 : HasTab h3)
    (hn' : h'.Ns h3.objs.size (fun y => if y = ".0" then some (.ref z) else none)) (hs' : Heap.SameBut h3.objs.size (h3.push { cls := .type "frame", data := .dict #[] }) h') :
    KwJoin prog w A h'.objs.size x y k outer s
      { s with gens := s.gens.push (.fresh (.compStart (gexp p1 p2 p3 p4 p5 p6 p7 p8 p9 p10 pa pb pt iter scope pos) 0 (.ref z) .none (genEnv scope [] h3.objs.size code builtinsNs env))), toks := tk,
               heap := h'.push { cls := .type "generator", data := .fields #[.int s.gens.size 0, nm, qn] } } := by
  intro t Q' E' hok hbad
  have n3 : s.heap.objs.size + 5 ≤ h3.objs.size := by have := nlt hz; omega
  have hsz : @Eq Nat h'.objs.size (h3.objs.size + 1) := by rw [hs'.1, Heap.size_push]
  have l248 : @LT.lt Nat _ 248 s.heap.objs.size := by obtain ⟨_, _, q⟩ := ht; exact nlt q
  obtain ⟨mc, hcs, hcn⟩ := id hlim
  have lcs : @LT.lt Nat _ cStatics s.heap.objs.size := hcs.lt
  have c8 : cStatics ≠ 248 := fun q => by
    obtain ⟨o, es, ep, ho, hd, _⟩ := hcs
    obtain ⟨ps, _, q2⟩ := ht
    rw [q, q2] at ho; cases ho; cases hd
  -- the heap with the generator
  have k5 : ∀ b o, h3.get? b = some o → (h'.push { cls := .type "generator", data := .fields #[.int s.gens.size 0, nm, qn] }).get? b = some o :=
    fun b o e => Heap.get?_push_of_some _ (hs'.extBut b o (Nat.ne_of_lt (nlt e)) (Heap.get?_push_of_some _ e))
  generalize hh5 : (h'.push { cls := .type "generator", data := .fields #[.int s.gens.size 0, nm, qn] }) = h5
  rw [hh5] at k5
  have sz5 : @Eq Nat h5.objs.size (h3.objs.size + 2) := by rw [← hh5, Heap.size_push, hsz]
  have hgen : h5.get? h'.objs.size = some { cls := .type "generator", data := .fields #[.int s.gens.size 0, nm, qn] } := by rw [← hh5]; exact Heap.get?_push_size _ rfl
  have hn5 : h5.Ns h3.objs.size (fun y => if y = ".0" then some (.ref z) else none) := by rw [← hh5]; exact hn'.push _
  have ks5 : ∀ b o, b ≠ 248 → s.heap.get? b = some o → h5.get? b = some o := fun b o n e => k5 b o (hk3 b o n e)
  have ht5 : HasTab h5 := ht3.keeps k5
  -- the walk over the zip
  have W : ∀ A' : Around, A'.handled = none → WalksU prog w A' z (h'.objs.size :: List.range h3.objs.size) (z :: TO :: ([I1] ++ [I2])) (min x.cps.size y.cps.size) (fun i vals => ∃ a b, P1 i a ∧ P2 i b ∧ vals = #[a, b]) _ _ := fun A' hA =>
    (walksZip hA (z := z) (TI := TI) (TO := TO) ⟨nne (by omega), nne (by omega), nne (by omega), fun q => (by have := hf1 _ q; omega), fun q => (by have := nmem q; omega), fun q => (by have := hf1 _ q; omega), fun q => (by have := nmem q; omega),
      fun q => (by have := hf1 _ q; omega), fun q => (by have := nmem q; omega), fun b hb q => (by have := hf1 _ hb; have := nmem q; omega), fun b hb q => (by have := nmem hb; have := nmem q; omega)⟩ D1 D2).mono_fp fun b hb => by
        refine .tail _ (List.mem_range.mpr ?_)
        rcases List.mem_cons.mp hb with rfl | hb
        · omega
        · rcases List.mem_cons.mp hb with rfl | hb
          · omega
          · rcases List.mem_cons.mp hb with rfl | hb
            · omega
            · rcases List.mem_append.mp hb with hb | hb
              · have := hf1 _ hb; omega
              · have := nmem hb; omega
  have hwr : ∀ b : Nat, b ∈ z :: TO :: ([I1] ++ [I2]) → @LE.le Nat _ s.heap.objs.size b ∧ @LT.lt Nat _ b h3.objs.size := fun b hb => by
    rcases List.mem_cons.mp hb with rfl | hb
    · omega
    · rcases List.mem_cons.mp hb with rfl | hb
      · omega
      · rcases List.mem_append.mp hb with hb | hb
        · have := nmem hb; omega
        · have := nmem hb; omega
  have hfs : ∀ b : Nat, b ∈ frs outer → @LT.lt Nat _ b s.heap.objs.size ∧ b ≠ 248 := fun b hb => by
    obtain ⟨_, o, ho, hd⟩ := frs_mem hfun hb
    refine ⟨nlt ho, fun q => ?_⟩
    obtain ⟨ps, _, q2⟩ := ht
    rw [q, q2] at ho; cases ho; exact hd _ rfl
  have hmin : min x.cps.size y.cps.size = minL x y := rfl
  rw [hmin] at W
  -- the base of the flight
  have g4 : ∀ b o, (hideAll h5 [h3.objs.size]).get? b = some o → b ≠ h3.objs.size ∧ h5.get? b = some o := fun b o q => ⟨fun n => (by rw [n, hideAll_none _ (.head _)] at q; cases q), of_hideAll _ q⟩
  have to4 : ∀ b o, b ≠ h3.objs.size → h5.get? b = some o → (hideAll h5 [h3.objs.size]).get? b = some o := fun b o n q => hideAll_get _ q fun hm => n (nmem hm)
  have f4 : (hideAll h5 [h3.objs.size]).FunFrames base outer := by
    have x2 : ∀ {l : List Env}, (∀ b ∈ frs l, b ∈ frs outer) → s.heap.FunFrames base l → (hideAll h5 [h3.objs.size]).FunFrames base l := by
      intro l
      induction l with
      | nil => exact fun _ _ => trivial
      | cons env rest ih =>
        rintro hw ⟨hk, ⟨L, o, hf, hn, ho, hd⟩, hr⟩
        have hm : L ∈ frs (env :: rest) := by unfold frs; rw [List.filterMap_cons, hf]; exact .head _
        have := hfs L (hw L hm)
        refine ⟨hk, ⟨L, o, hf, hn, to4 L o (by first | omega | exact nne (by omega)) (ks5 L o this.2 ho), hd⟩, ih (fun b hb => hw b ?_) hr⟩
        unfold frs; rw [List.filterMap_cons, hf]; exact .tail _ hb
    exact x2 (fun _ h => h) hfun
  have t4 : HasTab (hideAll h5 [h3.objs.size]) := by obtain ⟨ps, a, q⟩ := ht5; exact ⟨ps, a, to4 _ _ (by first | omega | exact nne (by omega)) q⟩
  have gst : GxAt prog w A.in1.in1 h'.objs.size s.gens.size h3.objs.size (h'.objs.size :: List.range h3.objs.size) (z :: TO :: ([I1] ++ [I2])) (minL x y) (cntOf x y k) (fun i v => ∃ u, v = .str (sgn x y i) u)
      (hideAll (hideAll h5 [h3.objs.size]) (z :: TO :: ([I1] ++ [I2]))) outer "AttributeError" 0
      { s with gens := s.gens.push (.fresh (.compStart (gexp p1 p2 p3 p4 p5 p6 p7 p8 p9 p10 pa pb pt iter scope pos) 0 (.ref z) .none (genEnv scope [] h3.objs.size code builtinsNs env))), toks := tk, heap := h5 } := by
    refine ⟨⟨_, nm, qn, hgen, rfl, rfl, rfl⟩, ⟨mc, hcs.at' fun o e => ks5 _ o c8 e, hcn⟩, _, Array.getElem?_push_size .., fun s'' hal => ⟨rfl, ?_⟩⟩
    have st0 := (W A hh).frame 0 h5 s''.heap ⟨k5 _ _ hz, k5 _ _ hTI, ⟨_, _, k5 _ _ hTO⟩, D1.frame _ _ _ hs1 fun b _ o e => k5 b o e, D2.frame _ _ _ hs2 fun b _ o e => k5 b o e⟩ fun b hb o e => hal b (.tail _ hb) o e
    refine seg_gxStart (A := A.in1.in1.in1) hh W st0 ?_
    exact seg_gx (A := A.in1.in1.in1) (cenv := genEnv scope [] h3.objs.size code builtinsNs env) (base := base) hh hfr W (fun i vals h => let ⟨a, b, _, _, e⟩ := h; ⟨a, b, e⟩) (by decide) hsc hst hkind rfl hco
      (fun hm => (List.mem_cons.mp hm).elim (fun q => absurd (show @Eq Nat h3.objs.size h'.objs.size from q) (by omega)) fun q => Nat.lt_irrefl _ (List.mem_range.mp q)) (cnt_le x y k) (kw_el ha hkind hsc hst hl h2 h0 hP2)
      f4 (fun b hb q => by have := (hfs b hb).1; have := (hwr b q).1; omega) t4 (fun q => by have := (hwr _ q).1; omega) (hideAll_none _ (.head _))
      (fun b o q => by
        have := g4 b o q
        have l := nlt this.2
        have t1 : ¬ @Eq Nat b h3.objs.size := this.1
        by_cases e : @Eq Nat b h'.objs.size
        · rw [e]; exact .head _
        · exact .tail _ (List.mem_range.mpr (by omega)))
      (cntOf x y k) 0 s'' s'' _ rfl (Nat.zero_le _) st0 (hn5.at' fun o e => hal _ (.head _) o e) (GenSince.refl _ _ _)
      fun b o hb q => by
        have := g4 b o q
        have l := nlt this.2
        refine hal b (.tail _ ?_) o this.2
        have t1 : ¬ @Eq Nat b h3.objs.size := this.1
        by_cases e : @Eq Nat b h'.objs.size
        · rw [e]; exact .head _
        · exact .tail _ (List.mem_range.mpr (by omega))
  have haC : h'.objs.size ≠ h3.objs.size := nne (by omega)
  have haw : h'.objs.size ∉ z :: TO :: ([I1] ++ [I2]) := fun q => by have := (hwr _ q).2; omega
  have hcC : cStatics ≠ h3.objs.size := nne (by omega)
  have hcw : cStatics ∉ z :: TO :: ([I1] ++ [I2]) := fun q => by have := (hwr _ q).1; omega
  have haf : h'.objs.size ∈ h'.objs.size :: List.range h3.objs.size := .head _
  have hcf : cStatics ∈ h'.objs.size :: List.range h3.objs.size := .tail _ (List.mem_range.mpr (by first | omega | exact nne (by omega)))
  have hsub : ∀ b ∈ z :: TO :: ([I1] ++ [I2]), b ∈ h'.objs.size :: List.range h3.objs.size := fun b hb => .tail _ (List.mem_range.mpr (hwr b hb).2)
  have hfp : ∀ b : Nat, b ∈ h3.objs.size :: h'.objs.size :: List.range h3.objs.size → @LT.lt Nat _ b h5.objs.size := fun b hb => by
    rcases List.mem_cons.mp hb with rfl | hb
    · omega
    · rcases List.mem_cons.mp hb with rfl | hb
      · omega
      · have := List.mem_range.mp hb; omega
  have hcnt : cntOf x y k ≤ 100 := Nat.le_trans (cnt_le x y k) (Nat.le_trans (Nat.min_le_left _ _) hx)
  by_cases hb : k = 2 ∧ blankIn x y = true
  · have hlt := cnt_lt.mpr hb
    have ao : h'.objs.size ∉ frs outer := fun q => by have := (hfs _ q).1; omega
    refine join_bad (a := h'.objs.size) (C := h3.objs.size) hh (Nat.lt_of_le_of_lt (Nat.le_add_right A.depth 4) hroom) haC haw hcC hcw haf hcf hsub hlt
      ⟨_, nm, qn, hideAll_get _ (to4 _ _ haC hgen) haw, rfl, rfl, rfl⟩ (by first | omega | exact nne (by omega)) ao (by rw [isSubtype_type]; kernel_rfl) gst hfp (fun e s' s₁ x1 x2 x3 x4 => ?_) (by rw [sizeLine_eq]; omega)
    refine hbad hb e s' (SameG.of_push rfl (x1.trans x4.gens) (x4.os.trans x2) (x4.drawn.trans x3)) (x4.fly.weaken fun b o q => ?_)
    have q1 : b ≠ 248 := fun n => by rw [n, hideAll_none _ (.head _)] at q; cases q
    have q2 := of_hideAll _ q
    have l := nlt q2
    exact hideAll_get _ (to4 b o (by first | omega | exact nne (by omega)) (ks5 b o q1 q2)) fun hm => by have := (hwr b hm).1; omega
  · have heq : cntOf x y k = minL x y := Nat.le_antisymm (cnt_le x y k) (Nat.le_of_not_lt fun q => hb (cnt_lt.mp q))
    refine SC.joinGen (GxAt.walks (A := A.in1.in1) hh (Nat.lt_of_le_of_lt (Nat.le_add_right A.depth 4) hroom) haC haw hcC hcw haf hcf hsub heq) (fun i s h => h.1.typeIs) gst hfp (.tail _ haf) (fun i v h => ⟨_, h⟩) (fun s' l hm hacc => ?_) (by rw [sizeLine_eq]; omega)
    have el : l.map (·.1) = (List.range (minL x y)).map fun j : Nat => sgn x y (j : Int) := by
      apply List.ext_getElem?
      intro j
      have hsz : l.length = minL x y := by rw [← heq]; simpa [strValues] using hacc.1
      by_cases hj : j < minL x y
      · have hj' : j < l.length := hsz ▸ hj
        obtain ⟨u, hv⟩ := hacc.2 j (.str l[j].1 l[j].2) (by simp [strValues, List.getElem?_eq_getElem hj'])
        injection hv with h1 _
        simp [List.getElem?_eq_getElem hj', hj, h1]
      · rw [List.getElem?_eq_none (by simpa [hsz] using Nat.le_of_not_lt hj), List.getElem?_eq_none (by simpa using Nat.le_of_not_lt hj)]
    rw [el]
    refine ⟨join_ok x y _ (by first | omega | exact nne (by omega)), fun t' tk2 => ?_⟩
    rw [lay_join]
    refine hok hb t' _ ⟨SameG.of_push rfl hm.gens hm.os hm.drawn, fun b o n q => ?_, ?_⟩
    · exact hm.heap b o (fun q2 => by
        have l := nlt q
        rcases List.mem_cons.mp q2 with rfl | q2
        · omega
        · have := (hwr b q2).1; omega) (ks5 b o n q)
    · obtain ⟨ps, a, q⟩ := ht5
      exact ⟨ps, a, hm.heap 248 _ (fun q2 => by
        rcases List.mem_cons.mp q2 with q2 | q2
        · have q3 : @Eq Nat 248 h3.objs.size := q2
          omega
        · have := (hwr _ q2).1; omega) q⟩
end
end Mine

end
section -- KwZ3
open PySem PySem.W PyProof.Rows PySem.Calls
set_option Elab.async false
set_option maxRecDepth 100000
namespace Mine
section
variable {prog : Program} {w : World} {A : Around} {E : Value → Shared → Prop} {s : Shared} {base : Heap} {outer : List Env} {x y : Str} {k : Int}
theorem kw_zip {v : Value} {t2 : Tok} {env : Env} {scope : Scope} {iter : Expr} {pos : Pos} {mg : Str → Option Value} {Q : Value → Shared → Prop}
    {p1 p2 p3 p4 p5 p6 p7 p8 p9 p10 pa pb pt : Pos} (S : Src s.heap x v k) (hk : k ≠ 3) (ha : Alpha x) (hy : TagA y) (hx : x.length ≤ 100) (hh : A.handled = none) (hfr : A.frames = some outer) (hroom : A.depth + 4 < recursionLimit)
    (hfun : s.heap.FunFrames base outer) (ht : HasTab s.heap) (hlim : s.heap.NoLimit) (C : CodeHd s.heap 252 248) (hcode : env.code = .ref 252) (hg : s.heap.Ns env.globals mg)
    (hbm : ∃ bm ob, mg "__builtins__" = some (.ref bm) ∧ bm ≠ builtinsNs ∧ s.heap.get? bm = some ob ∧ ob.cls = .type "module" ∧ ob.dict = some builtinsNs ∧ ob.data = .plain)
    (hkind : scope.kind = .function) (hsc : scope.names.lookup (Str.ofString "c") = some .local) (hst : scope.names.lookup (Str.ofString "tag_c") = some .local) (hco : scope.isCoroutine = false) (hl : (p5.endLine == p6.line) = true)
    (hQ : ∀ a s₅, KwJoin prog w A a x y k outer s s₅ → Q (.ref a) s₅) :
    wpAny (model prog w) A (call (.type "zip") [v, .str y t2]) (fun xv s₁ => wpAny (model prog w) A (pyIter xv) (fun it s₂ => s₂.heap.NoLimit ∧
      wpAny (model prog w) A (genexprCode env pos (env.qual ++ "<genexpr>") scope) (fun code s₃ => wpAny (model prog w) A (builtinsFor env.globals env.builtins) (fun bi s₄ =>
        ∀ h', h'.Ns s₄.heap.objs.size (fun y => if y = ".0" then some it else none) → Heap.SameBut s₄.heap.objs.size (s₄.heap.push { cls := .type "frame", data := .dict #[] }) h' →
          Q (.ref h'.objs.size) { s₄ with
            gens := s₄.gens.push (.fresh (.compStart (gexp p1 p2 p3 p4 p5 p6 p7 p8 p9 p10 pa pb pt iter scope pos) 0 it .none (genEnv scope [] s₄.heap.objs.size code bi env))),
            toks := s₄.toks + 1 + 1 + 1,
            heap := h'.push { cls := .type "generator", data := .fields #[.int s₄.gens.size 0, .str "<genexpr>" (s₄.toks + 1), .str (env.qual ++ "<genexpr>") (s₄.toks + 1 + 1)] } }) E s₃) E s₂) E s₁) E s := by
  refine call_zipG fun prog' w' => src_iter S hk ha ht fun I1 fp1 P1 St1 h₁ D1 st1 e1 z1 f1 f8 k1 q2 q0 => ?_
  refine wpAny_pyIter_ascii (tags_ascii hy) ?_
  -- the zip
  have e1' : @Eq Nat I1 s.heap.objs.size := e1
  have z1' : @Eq Nat h₁.objs.size (s.heap.objs.size + 1) := by rw [← e1']; exact z1
  generalize hh2 : (h₁.push { cls := .type "str_ascii_iterator", data := .fields #[.str y t2, .int 0 0] }) = h2
  have i2 : h2.get? h₁.objs.size = some { cls := .type "str_ascii_iterator", data := .fields #[.str y t2, .int 0 0] } := by rw [← hh2]; exact Heap.get?_push_size _ rfl
  have k2 : ∀ b o, h₁.get? b = some o → h2.get? b = some o := fun b o e => by rw [← hh2]; exact Heap.get?_push_of_some _ e
  have z2 : @Eq Nat h2.objs.size (s.heap.objs.size + 2) := by rw [← hh2, Heap.size_push, z1']
  show wpAny _ A (pyIter (.ref ((h2.push (pairO (.ref I1) (.ref h₁.objs.size))).push (pairO .none .none)).objs.size)) _ _ { s with heap := zipHeap h2 (.ref I1) (.ref h₁.objs.size) }
  have z3 : @Eq Nat (h2.push (pairO (.ref I1) (.ref h₁.objs.size))).objs.size (s.heap.objs.size + 3) := by rw [Heap.size_push, z2]
  have z4 : @Eq Nat ((h2.push (pairO (.ref I1) (.ref h₁.objs.size))).push (pairO .none .none)).objs.size (s.heap.objs.size + 4) := by rw [Heap.size_push, z3]
  have hz : IsZip (zipHeap h2 (.ref I1) (.ref h₁.objs.size)) ((h2.push (pairO (.ref I1) (.ref h₁.objs.size))).push (pairO .none .none)).objs.size h2.objs.size (h2.push (pairO (.ref I1) (.ref h₁.objs.size))).objs.size .none := Heap.get?_push_size _ rfl
  have hTO : IsPair (zipHeap h2 (.ref I1) (.ref h₁.objs.size)) (h2.push (pairO (.ref I1) (.ref h₁.objs.size))).objs.size .none .none := Heap.get?_push_of_some _ (Heap.get?_push_size _ rfl)
  have hTI : IsPair (zipHeap h2 (.ref I1) (.ref h₁.objs.size)) h2.objs.size (.ref I1) (.ref h₁.objs.size) := Heap.get?_push_of_some _ (Heap.get?_push_of_some _ (Heap.get?_push_size _ rfl))
  have kz : ∀ b o, h2.get? b = some o → (zipHeap h2 (.ref I1) (.ref h₁.objs.size)).get? b = some o := fun b o e => Heap.get?_push_of_some _ (Heap.get?_push_of_some _ (Heap.get?_push_of_some _ e))
  refine wpAny_pyIter_zip hz ?_
  generalize zipHeap h2 (.ref I1) (.ref h₁.objs.size) = hZ at hz hTO hTI kz ⊢
  have ks : ∀ b o, s.heap.get? b = some o → hZ.get? b = some o := fun b o e => kz b o (k2 b o (k1 b o e))
  have tZ := ht.keeps ks
  have st1Z : St1 0 hZ := D1.frame _ _ _ st1 fun b _ o e => kz b o (k2 b o e)
  have st2Z : hZ.IsStrIter h₁.objs.size "str_ascii_iterator" y t2 0 := ⟨_, kz _ _ i2, rfl, rfl⟩
  obtain ⟨bm, ob, b1, b2, b3, b4, b5, b6⟩ := hbm
  have hb8 : bm ≠ 248 := fun q => by
    obtain ⟨ps, _, q2⟩ := ht
    rw [q, q2] at b3; cases b3; cases b4
  have hg8 : env.globals ≠ 248 := fun q => by
    obtain ⟨o, es, ep, ho, hd, _⟩ := hg
    obtain ⟨ps, _, q2⟩ := ht
    rw [q, q2] at ho; cases ho; cases hd
  -- from the code on
  have last : ∀ (code : Value) (h3 : Heap) (tk : Nat), KeepT hZ h3 → HasTab h3 → wpAny (model prog w) A (builtinsFor env.globals env.builtins) (fun bi s₄ =>
        ∀ h', h'.Ns s₄.heap.objs.size (fun y => if y = ".0" then some (Value.ref ((h2.push (pairO (.ref I1) (.ref h₁.objs.size))).push (pairO .none .none)).objs.size) else none) → Heap.SameBut s₄.heap.objs.size (s₄.heap.push { cls := .type "frame", data := .dict #[] }) h' →
          Q (.ref h'.objs.size) { s₄ with
            gens := s₄.gens.push (.fresh (.compStart (gexp p1 p2 p3 p4 p5 p6 p7 p8 p9 p10 pa pb pt iter scope pos) 0 (Value.ref ((h2.push (pairO (.ref I1) (.ref h₁.objs.size))).push (pairO .none .none)).objs.size) .none (genEnv scope [] s₄.heap.objs.size code bi env))),
            toks := s₄.toks + 1 + 1 + 1,
            heap := h'.push { cls := .type "generator", data := .fields #[.int s₄.gens.size 0, .str "<genexpr>" (s₄.toks + 1), .str (env.qual ++ "<genexpr>") (s₄.toks + 1 + 1)] } }) E { s with heap := h3, toks := tk } := by
    intro code h3 tk k3 t3
    have ne8 : ∀ {b : Addr} {o : Obj}, hZ.get? b = some o → o.cls ≠ .none → b ≠ 248 := fun e hc q => by
      obtain ⟨ps, _, q2⟩ := tZ
      rw [q, q2] at e; cases e; exact hc rfl
    refine wpAny_builtinsFor (s := { s with heap := h3, toks := tk }) (hg.at' fun o e => k3 _ _ hg8 (ks _ _ e)) b1 b2 (k3 _ _ hb8 (ks _ _ b3)) b4 b5 b6 fun h' hn' hs' => ?_
    have l8 : @LT.lt Nat _ 248 s.heap.objs.size := by obtain ⟨_, _, q⟩ := ht; exact Heap.lt_size q
    refine hQ _ _ (kw_made ha hx hh hfr hroom hfun ht hlim hkind hsc hst hco hl D1 (Draws.str h₁.objs.size y t2) q2 q0 (fun i va h => h) e1' z1' z2 z3 z4 f1
      (k3 _ _ (ne8 hz (by nofun)) hz) (k3 _ _ (ne8 hTI (by nofun)) hTI) (k3 _ _ (ne8 hTO (by nofun)) hTO)
      (D1.frame _ _ _ st1Z fun b hb o e => k3 b o (f8 b hb) e) ⟨_, k3 _ _ (ne8 (kz _ _ i2) (by nofun)) (kz _ _ i2), rfl, rfl⟩ (fun b o n e => k3 b o n (ks b o e)) t3 hn' hs')
  refine ⟨hlim.keeps ks, ?_⟩
  obtain ⟨ps, hps, hP⟩ := id tZ
  have CZ := C.keeps ks
  cases hc : codeAmong pos ps.toList with
  | some c' => exact wpAny_genexprCode_hit hcode (CZ.code hP hps) hc (last c' hZ _ (KeepT.refl _) tZ)
  | none =>
    refine wpAny_genexprCodeX hcode (CZ.code hP hps) (CZ.tab hP) hc fun c' h' tk hx' _ _ _ _ ht' _ => last _ h' tk (KeepT.of_ext hx') ⟨_, ?_, ht'.2⟩
    rw [Array.toList_append]
    exact TriplesOk_snoc _ _ _ _ hps
theorem kw_gen {v : Value} {t2 : Tok} {env : Env} {scope : Scope} {iter : Expr} {pos : Pos} {mg : Str → Option Value} {Q : Value → Shared → Prop}
    {p1 p2 p3 p4 p5 p6 p7 p8 p9 p10 pa pb pt : Pos} (S : Src s.heap x v k) (hk : k ≠ 3) (ha : Alpha x) (hy : TagA y) (hx : x.length ≤ 100) (hh : A.handled = none) (hfr : A.frames = some outer) (hroom : A.depth + 4 < recursionLimit)
    (hfun : s.heap.FunFrames base outer) (ht : HasTab s.heap) (hlim : s.heap.NoLimit) (C : CodeHd s.heap 252 248) (hcode : env.code = .ref 252) (hg : s.heap.Ns env.globals mg)
    (hbm : ∃ bm ob, mg "__builtins__" = some (.ref bm) ∧ bm ≠ builtinsNs ∧ s.heap.get? bm = some ob ∧ ob.cls = .type "module" ∧ ob.dict = some builtinsNs ∧ ob.data = .plain)
    (hkind : scope.kind = .function) (hsc : scope.names.lookup (Str.ofString "c") = some .local) (hst : scope.names.lookup (Str.ofString "tag_c") = some .local) (hco : scope.isCoroutine = false) (hl : (p5.endLine == p6.line) = true)
    (hclos : closureFor scope env = pure []) (hcell : ∀ y ∈ scope.names, y.2 ≠ .cell) (h0 : scope.names.lookup (".0" : Str) = some NameKind.local) (hs : ∀ x, genFold iter env x = pure x)
    (hi : ∀ Q' : Value → Shared → Prop, wpAny (model prog w) A (call (.type "zip") [v, .str y t2]) Q' E s → wpAny (model prog w) A (eval iter env) Q' E s)
    (hQ : ∀ a s₅, KwJoin prog w A a x y k outer s s₅ → Q (.ref a) s₅) :
    wpAny (model prog w) A (eval (gexp p1 p2 p3 p4 p5 p6 p7 p8 p9 p10 pa pb pt iter scope pos) env) Q E s :=
  wpAny_GeneratorExp_make hco hclos hcell h0 hkind (Nat.lt_of_le_of_lt (Nat.le_add_right A.depth 4) hroom) (hi _ (kw_zip S hk ha hy hx hh hfr hroom hfun ht hlim C hcode hg hbm hkind hsc hst hco hl hQ)) hs
theorem kw_gen3 {t2 : Tok} {env : Env} {scope : Scope} {iter : Expr} {pos : Pos} {Q : Value → Shared → Prop} {elt target : Expr} (hh : A.handled = none) (hroom : A.depth + 4 < recursionLimit) (hkind : scope.kind = .function) (hco : scope.isCoroutine = false)
    (hclos : closureFor scope env = pure []) (hcell : ∀ y ∈ scope.names, y.2 ≠ .cell) (h0 : scope.names.lookup (".0" : Str) = some NameKind.local) (hs : ∀ x, genFold iter env x = pure x)
    (hi : ∀ Q' : Value → Shared → Prop, wpAny (model prog w) A (call (.type "zip") [.none, .str y t2]) Q' E s → wpAny (model prog w) A (eval iter env) Q' E s)
    (hE : ∀ h' tk e, NewX s.heap h' e "TypeError" → E (.ref e) { s with heap := h', toks := tk }) :
    wpAny (model prog w) A (eval (.GeneratorExp elt [⟨target, iter, [], 0⟩] scope pos) env) Q E s :=
  wpAny_GeneratorExp_make hco hclos hcell h0 hkind (Nat.lt_of_le_of_lt (Nat.le_add_right A.depth 4) hroom) (hi _ (call_zipG fun _ _ => iter_none hh hE)) hs
end
end Mine

end
section -- Kw
open PySem PySem.W PyProof.Rows PySem.Calls
set_option Elab.async false
set_option maxRecDepth 100000
set_option pp.maxSteps 2000
namespace Mine
theorem codeHd_of {P : Params} {h : Heap} (X : (K P).In h) : CodeHd h 252 248 :=
  ⟨_, _, _, _, _, _, _, _, _, X 252 _ rfl, rfl, rfl, rfl, rfl, rfl, rfl, rfl, rfl, by decide⟩
set_option maxHeartbeats 8000000 in
theorem kw_pure (w : World) (mean : ExcName → Option Value) (mg mb : Str → Option Value) (dp un : Nat) (gd : Option (List Code)) (outer : List Env) (A₀ : Around) (base : Heap) (s : Shared) (R : Result → Shared → Prop)
    (x : Str) (v : Value) (k : Int) (y : Str) (t2 : Tok) (S : Src s.heap x v k) (ha : Alpha x) (hy : TagA y) (hx : x.length ≤ 100) (ht : HasTab s.heap)
    (B : Below A₀ base outer s.heap) (X : (K w.params).In s.heap) (T : Top (q pw0) loose0 mean mg mb s.heap) (hd : dp + 6 < recursionLimit) (hu : un + 20 < cLine)
    (hok : k ≠ 3 → ¬ (k = 2 ∧ blankIn x y = true) → ∀ t s', SameT s s' → R (.ok (.ret (.str (layN x y (minL x y)) t))) s')
    (hattr : k = 2 ∧ blankIn x y = true → ∀ e s', SameG s s' → Fly s.heap outer e "AttributeError" s'.heap → R (.error (.ref e)) s')
    (htype : k = 3 → ∀ e s', SameG s s' → Fly s.heap outer e "TypeError" s'.heap → R (.error (.ref e)) s') :
    codeAny (model PySem.Challenge.rw_dm0062_06.row.prog w) (arA dp un gd outer) (.call (.ref 253) ⟨[v, .str y t2], []⟩) R s := by
  revert X
  k_fill
  intro X
  refine' pure_enter ?k1 ?k2 ?k3 ?k4 ?k5 ?k6 ?k7 ?k8 ?_ ?c1 ?c2 ?c3 ?c4
  case k1 => exact B
  case k2 => exact X
  case k3 => exact T
  case k4 => k_is
  case k5 => k_is
  case k6 => omega
  case k7 => exact BindsTo.of_eq rfl
  case k8 => exact locs rfl
  case c1 => exact rfl
  case c2 => exact rfl
  case c3 => exact rfl
  case c4 => decide
  intro L' h₁ F' N' B' X' T'
  clear B X T
  show wpAny _ _ (execs (_ :: _) _) _ _ _
  (try k_fold)
  repeat' (first | (fail_if_success (with_reducible show wpAny _ _ (eval (Expr.GeneratorExp _ _ _ _) _) _ _ _)); first | (k_unfold; (try dsimp only)) | (k_end; wrow_close) | walk1 | (dsimp only; walk1) | (leave1; walk_say "STEP leave1"; try dsimp only) | fail "no step")
  have hgL : s.heap.get? L' = none := Heap.get?_none_of_le F'.above
  have B2 := B'.push (name := Str.ofString "_keep_original_ws") (scope := fs_6 pw0) (a := 253) (cd := .ref 252) F' rfl
  by_cases k3 : k = 3
  · subst k3
    cases S
    refine' kw_gen3 (y := y) (t2 := t2) ?a1 ?a2 ?a3 ?a4 ?a5 ?a6 ?a7 ?a8 ?a9 ?a10
    case a1 => rfl
    case a2 => show dp + 1 + 4 < _; omega
    case a3 => rfl
    case a4 => rfl
    case a5 => rfl
    case a6 => decide
    case a7 => rfl
    case a8 => exact fun _ => rfl
    case a9 =>
      intro Q' hz
      repeat' (first | (fail_if_success (with_reducible show wpAny _ _ (call (Value.type _) _) _ _ _)); first | (k_unfold; (try dsimp only)) | walk1 | (dsimp only; walk1) | fail "no step")
      exact hz
    case a10 =>
      intro h' tk' e hx'
      obtain ⟨ob, vs, a0, he, hc, hd', v1, v0⟩ := hx'.there
      show wpAny _ _ (leaving _ (.ref e)) _ _ _
      refine leave_first (g := s.heap) (outer := outer) rfl rfl (B2.frames.of_keeps fun b o q _ => ⟨o, hx'.keeps b o q, rfl⟩) ((ht.keeps F'.keep).keeps hx'.keeps) he hc hd' v1 v0 hgL ?_ (fun b o _ q => hx'.keeps b o (F'.keep b o q)) ht.noFields
        fun h'' fl => htype rfl e _ ⟨fun z => z, fun _ _ => rfl, rfl, rfl⟩ fl
      cases q : s.heap.get? e with
      | none => rfl
      | some o => have q2 := F'.keep e o q; rw [hx'.new] at q2; cases q2
  · obtain ⟨bm, ob, b1, b2, b3, b4⟩ := T'.bmain
    refine' kw_gen (base := base) (outer := _ :: outer) (mg := mg) (x := x) (y := y) (k := k) (v := v) (t2 := t2) ?S k3 ha hy hx ?a1 ?a2 ?a3 ?a4 ?a5 ?a6 ?a7 ?a8 ?a9 ?a10 ?h1 ?h2 ?h3 ?h4 ?hl ?c1 ?c2 ?c3 ?c4 ?c5 ?hj
    case S => exact S.keeps (fun b o _ q => F'.keep b o q) ht
    case a1 => rfl
    case a2 => rfl
    case a3 => show dp + 1 + 4 < _; omega
    case a4 => exact B2.frames
    case a5 => exact ht.keeps F'.keep
    case a6 => exact T'.nolimit.keeps F'.keep
    case a7 => exact codeHd_of (X'.keeps F'.keep)
    case a8 => rfl
    case a9 => exact T'.g.keeps F'.keep
    case a10 => exact ⟨bm, ob, b1, b2, F'.keep _ _ b3, b4⟩
    case h1 => rfl
    case h2 => rfl
    case h3 => rfl
    case h4 => rfl
    case hl => rfl
    case c1 => rfl
    case c2 => decide
    case c3 => rfl
    case c4 => exact fun _ => rfl
    case c5 =>
      intro Q' hz
      repeat' (first | (fail_if_success (with_reducible show wpAny _ _ (call (Value.type _) _) _ _ _)); first | (k_unfold; (try dsimp only)) | walk1 | (dsimp only; walk1) | fail "no step")
      exact hz
    case hj =>
      intro a s₅ J
      walk1
      show wpAny _ _ (call (.builtin "str.join") [.str (Str.ofString "") _, .ref a]) _ _ _
      refine J _ _ _ (fun nb t' s' st => ?_) (fun hb e s' sg fl => ?_)
      · exact hok k3 nb t' s' ⟨⟨st.bare, st.gens, st.os, st.drawn⟩, fun b o n q => st.keep b o n (F'.keep b o q), st.tab⟩
      · show wpAny _ _ (leaving _ (.ref e)) _ _ _
        refine leave_on (g := s.heap) (outer := outer) rfl rfl fl hgL (fun b o n q => hideAll_get _ (F'.keep b o q) fun hm => n (List.mem_singleton.mp hm)) ht.noFields fun h' fl' => hattr hb e _ ⟨sg.bare, sg.gens, sg.os, sg.drawn⟩ fl'
end Mine

end
section -- Qf0
open PySem PySem.W PyProof.Rows PySem.Calls
set_option Elab.async false
set_option maxRecDepth 100000
namespace Mine
/-- the heap up to the address n -/
def trunc (h : Heap) (n : Nat) : Heap := { h with objs := h.objs.extract 0 n }
theorem trunc_size (h : Heap) (n : Nat) : (trunc h n).objs.size ≤ n := by
  show (h.objs.extract 0 n).size ≤ n
  rw [Array.size_extract]; omega
theorem trunc_get {h : Heap} {n b : Nat} (hb : b < n) : (trunc h n).get? b = h.get? b := by
  have e : (h.objs.extract 0 n)[b]? = h.objs[b]? := by
    rw [Array.getElem?_extract]
    by_cases q : b < h.objs.size
    · rw [if_pos (by omega)]; simp
    · rw [if_neg (by omega)]; simp [Nat.le_of_not_lt q]
  unfold Heap.get? trunc
  simp only [e]
theorem trunc_of {h : Heap} {n b : Nat} {o : Obj} (e : (trunc h n).get? b = some o) : b < n ∧ h.get? b = some o := by
  have l : @LT.lt Nat _ b n := Nat.lt_of_lt_of_le (Heap.lt_size e) (trunc_size h n)
  rw [trunc_get l] at e
  exact ⟨l, e⟩
end Mine

end
section -- Qf1
open PySem PySem.W PyProof.Rows PySem.Calls
set_option Elab.async false
set_option maxRecDepth 100000
namespace Mine
noncomputable abbrev qEnv (Lg : Addr) : Env := envOf (Str.ofString "Differ._qformat") (fs_7_7 pw0) Lg 310 (.ref 309)
abbrev qM (w : World) : Model := model PySem.Challenge.rw_dm0062_06.row.prog w
abbrev qK : Flow → Sem Fin := fun f => .pure (.done (.ret (match f with | .ret v => v | _ => .none)))
noncomputable abbrev qH (Lg : Addr) : Value → Sem Fin := fun e => (leaving (qEnv Lg) e).wrap (fun _ => .raise e) .raise id id
/-- what a resume leaves as it was -/
structure QSince (Lg : Nat) (s₀ s₁ : Shared) : Prop extends SameG s₀ s₁ where
  tab : HasTab s₁.heap
  keep : ∀ (b : Nat) o, b < Lg + 2 → b ≠ 248 → b ≠ Lg → s₀.heap.get? b = some o → s₁.heap.get? b = some o
/-- what the caller leaves as it was between two resumes -/
structure QOk (h₀ : Heap) (L Lg : Nat) (x0 x1 : Str) (v0 v1 : Value) (k0 k1 : Int) (s : Shared) : Prop where
  stays : h₀.StaysIn s.heap
  tab : HasTab s.heap
  law : ∃ ml, s.heap.Ns L ml
  gen : ∃ go : Obj, s.heap.get? (Lg + 1) = some go
  src0 : Src (trunc s.heap Lg) x0 v0 k0
  src1 : Src (trunc s.heap Lg) x1 v1 k1
def gBase (Lg : Nat) (s₀ : Shared) : Heap := hideAll (trunc s₀.heap (Lg + 2)) [248, Lg]
def qY (Lg : Nat) (Ok : Shared → Prop) (rows : List Str) : Protocol := fun n s₀ v s₁ kap =>
  (∃ t, v = .str (rows.getD (rows.length - 1 - n) (Str.ofString "")) t) ∧ QSince Lg s₀ s₁ ∧ ∀ s'' : Shared, s''.heap.get? Lg = s₁.heap.get? Lg → Ok s'' → kap (.send .none) s''
def qR (Lg : Nat) (lawE : Env) (fin : Option String) : GenEnd := fun n s₀ r s₁ => n = 0 ∧ match fin with
  | none => r = .ok (.ret .none) ∧ QSince Lg s₀ s₁
  | some cls => ∃ e, r = .error (.ref e) ∧ SameG s₀ s₁ ∧ Fly (gBase Lg s₀) [lawE] e cls s₁.heap
theorem SameG.refl (s : Shared) : SameG s s := ⟨fun x => x, fun _ _ => rfl, rfl, rfl⟩
theorem SameG.trans {a b c : Shared} (x : SameG a b) (y : SameG b c) : SameG a c :=
  ⟨fun z => y.bare (x.bare z), fun i hi => by
    have e := x.gens i hi
    have l : i < b.gens.size := by
      rw [Array.getElem?_eq_getElem hi] at e
      exact (Array.getElem?_eq_some_iff.mp e).1
    rw [y.gens i l, e], y.os.trans x.os, y.drawn.trans x.drawn⟩
theorem SameG.step {a b : Shared} {h : Heap} {tk : Nat} (x : SameG a b) : SameG a { b with heap := h, toks := tk } := ⟨x.bare, x.gens, x.os, x.drawn⟩
theorem getD_mid (pre post : List Str) (r d : Str) : (pre ++ r :: post).getD ((pre ++ r :: post).length - 1 - post.length) d = r := by
  have e : (pre ++ r :: post).length - 1 - post.length = pre.length := by simp
  rw [e]; simp
/-- the frame of the generator, at a resume -/
structure QIn (w : World) (mean : ExcName → Option Value) (mg mb : Str → Option Value) (dp un : Nat) (gd : Option (List Code)) (lawE : Env) (h₀ : Heap) (Lg : Nat) (s : Shared) (m : Str → Option Value) (go : Obj) (ps : Array Value) : Prop where
  B : Below (arA dp un gd [lawE]) h₀ [lawE] (hideAll (trunc s.heap Lg) [248])
  X : (K w.params).In (hideAll (trunc s.heap Lg) [248])
  T : Top (q pw0) loose0 mean mg mb (hideAll (trunc s.heap Lg) [248])
  F : Fr (hideAll (trunc s.heap Lg) [248]) Lg s.heap m
  N : News (hideAll (trunc s.heap Lg) [248]) Lg s.heap [(Lg + 1, go), (248, tabObj ps)]
  ps : TriplesOk ps.toList
section
variable {w : World} {mean : ExcName → Option Value} {mg mb : Str → Option Value} {dp un : Nat} {gd : Option (List Code)} {lawE : Env} {h₀ : Heap} {L Lg : Nat} {s : Shared} {m : Str → Option Value} {x0 x1 : Str} {v0 v1 : Value} {k0 k1 : Int}
theorem hidT {h : Heap} {n b : Nat} {o : Obj} (l : b < n) (e : h.get? b = some o) (n8 : b ≠ 248) : (hideAll (trunc h n) [248]).get? b = some o :=
  hideAll_get _ (by rw [trunc_get l]; exact e) fun hm => n8 (List.mem_singleton.mp hm)
theorem q_in (X : (K w.params).In h₀) (T : Top (q pw0) loose0 mean mg mb h₀) (h8 : h₀.get? 248 = none) (hL : h₀.objs.size ≤ L) (hl : L < Lg) (hf : lawE.frame = some L) (hk : lawE.scope.kind ≠ .module)
    (ok : QOk h₀ L Lg x0 x1 v0 v1 k0 k1 s) (hn : s.heap.Ns Lg m) : ∃ go ps, QIn w mean mg mb dp un gd lawE h₀ Lg s m go ps := by
  obtain ⟨go, hgo⟩ := ok.gen
  obtain ⟨ps, hps, hP⟩ := ok.tab
  obtain ⟨ml, hml⟩ := ok.law
  have h0L : ∀ {b : Nat} {o : Obj}, h₀.get? b = some o → b < L := fun e => Nat.lt_of_lt_of_le (Heap.lt_size e) hL
  have st : h₀.StaysIn (hideAll (trunc s.heap Lg) [248]) := fun b o e => hidT (Nat.lt_trans (h0L e) hl) (ok.stays b o e) fun q => by rw [q, h8] at e; cases e
  have l8 : (248 : Nat) ≠ Lg := fun q => by
    obtain ⟨o, es, ep, ho, hd, _⟩ := hn
    rw [← q, hP] at ho; cases ho; cases hd
  have L8 : L ≠ 248 := fun q => by
    obtain ⟨o, es, ep, ho, hd, _⟩ := hml
    rw [q, hP] at ho; cases ho; cases hd
  have sz : (hideAll (trunc s.heap Lg) [248]).objs.size ≤ Lg := by rw [hideAll_size]; exact trunc_size _ _
  have nn : ∀ {b : Nat}, Lg ≤ b → (hideAll (trunc s.heap Lg) [248]).get? b = none := fun hb => Heap.get?_none_of_le (Nat.le_trans sz hb)
  have ke : ∀ b o, (hideAll (trunc s.heap Lg) [248]).get? b = some o → s.heap.get? b = some o := fun b o e => (trunc_of (of_hideAll _ e)).2
  refine ⟨go, ps, ⟨rfl, st, ?_⟩, X.keeps st, T.keeps st, ⟨hn, ke, sz⟩, fun q hq => ?_, hps⟩
  · obtain ⟨o, es, ep, ho, hd, _⟩ := hml
    exact ⟨hk, ⟨L, o, hf, Heap.get?_none_of_le hL, hidT hl ho L8, fun vs e => by rw [hd] at e; cases e⟩, trivial⟩
  · rcases List.mem_cons.mp hq with rfl | hq
    · exact ⟨hgo, (Nat.succ_ne_self Lg), nn (Nat.le_succ _)⟩
    · rw [List.mem_singleton.mp hq]
      exact ⟨hP, l8, hideAll_none _ (.head _)⟩
/-- the resume's end, from the frame -/
theorem q_since {s₁ : Shared} {go : Obj} {ps₁ : Array Value} {m₁ : Str → Option Value} (hgo : s.heap.get? (Lg + 1) = some go) (sg : SameG s s₁) (F : Fr (hideAll (trunc s.heap Lg) [248]) Lg s₁.heap m₁) (N : News (hideAll (trunc s.heap Lg) [248]) Lg s₁.heap [(Lg + 1, go), (248, tabObj ps₁)]) (hps : TriplesOk ps₁.toList) : QSince Lg s s₁ := by
  refine ⟨sg, ⟨ps₁, hps, (N _ (.tail _ (.head _))).1⟩, fun b o h1 h2 h3 e => ?_⟩
  by_cases q : b < Lg
  · exact F.keep b o (hidT q e h2)
  · have : b = Lg + 1 := by omega
    subst this
    rw [hgo] at e; cases e
    exact (N _ (.head _)).1
end
end Mine

end
section -- Qf2
open PySem PySem.W PyProof.Rows PySem.Calls
set_option Elab.async false
set_option maxRecDepth 100000
namespace Mine
section
variable {prog : Program} {w : World} {A : Around} {E : Value → Shared → Prop} {s : Shared} {x : Str} {t : Tok} {Q : Value → Shared → Prop}
theorem add_other {b : Value} {Tb : String} (hb : s.TypeIs b Tb) (hne : (Value.type "str" == Value.type Tb) = false) (hfb : fillsNumberSlot (.type Tb) "add" = pure false)
    (hc : wpAny (model prog w) A (call (.builtin "str.__add__") [.str x t, b]) Q E s) : wpAny (model prog w) A (binaryOp .Add (.str x t) b) Q E s := by
  unfold binaryOp
  refine wpAny_holding ?_
  show wpAny _ _ (binaryOp1 "add" (.str x t) b >>= _) _ _ _
  refine wpAny_bind ?_
  simp only [binaryOp1]
  refine wpAny_bind (wpAny_typeOf (typeIs_str s x t) (wpAny_bind (wpAny_typeOf hb (wpAny_bind (wpAny_of_eq PySem.noFill_str_add ?_)))))
  simp only [hne, Bool.false_eq_true, if_false]
  refine wpAny_bind (wpAny_of_eq hfb ?_)
  simp only [Bool.false_and, Bool.false_eq_true, if_false, pure_bind]
  refine wpAny_pure ?_
  refine wpAny_bind (wpAny_typeOf (typeIs_str s x t) ?_)
  refine wpAny_bind (wpAny_of_eq PySem.seq_str_add ?_)
  exact wpAny_bind (wpAny_rule hc)
theorem msg_fits (n : String) (h : n.length ≤ 100) : ((toString "can only concatenate str (not \"" ++ toString n ++ toString "\") to str" : String) : Str).length ≤ sizeLine := by
  rw [PySem.ofString_length]
  have e : (toString "can only concatenate str (not \"" ++ toString n ++ toString "\") to str" : String).length = 31 + n.length + 9 := by
    show ("can only concatenate str (not \"" ++ n ++ "\") to str").length = _
    rw [String.length_append, String.length_append]; rfl
  rw [e, sizeLine_eq]; omega
theorem add_list {a : Addr} {vs : Array Value} (hA : A.handled = none) (hl : s.heap.IsList a vs) (hE : ∀ h' tk e, NewX s.heap h' e "TypeError" → E (.ref e) { s with heap := h', toks := tk }) :
    wpAny (model prog w) A (binaryOp .Add (.str x t) (.ref a)) Q E s := by
  refine add_other hl.typeIs (by decide) noFill_list_add ?_
  refine wpAny_call (codeAny_call_builtin F.slot_str_add.plain F.entry_str_add (F.slot_str_add.check _ _ _ _ _ _ _ _ (typeIs_str _ _ _) (F.args_str_add_2 _ _) ?_))
  show wpAny _ _ (asStr? (.ref a) >>= _) _ _ _
  obtain ⟨o, ho, hc, n, hd⟩ := id hl
  refine wpAny_bind ?_
  unfold asStr?
  refine wpAny_bind (wpAny_load ho ?_)
  rw [hd]
  refine wpAny_pure ?_
  refine wpAny_bind (wpAny_rule ?_)
  refine wpAny_bind (wpAny_typeNameOf' hl.typeIs (by decide) ?_)
  exact wpAny_raiseTypeError hA (fun h' tk e y => hE h' tk e (NewX.of y)) (msg_fits _ (by decide +kernel))
theorem add_bytes {b : Array UInt8} {u : Tok} (hA : A.handled = none) (hE : ∀ h' tk e, NewX s.heap h' e "TypeError" → E (.ref e) { s with heap := h', toks := tk }) :
    wpAny (model prog w) A (binaryOp .Add (.str x t) (.bytes b u)) Q E s := by
  have hT : s.TypeIs (.bytes b u) "bytes" := rfl
  refine add_other hT (by decide) (PySem.fillsNumberSlot_seq (id := "bytes.__add__") (r := none) FB.slot_bytes_add.lookup (by decide +kernel) (by rw [typeLookup_type, builtinLookup_eq_fast]; kernel_rfl) rfl) ?_
  refine wpAny_call (codeAny_call_builtin F.slot_str_add.plain F.entry_str_add (F.slot_str_add.check _ _ _ _ _ _ _ _ (typeIs_str _ _ _) (F.args_str_add_2 _ _) ?_))
  show wpAny _ _ (rule "str.__add__.not-a-str" >>= _) _ _ _
  refine wpAny_bind (wpAny_rule ?_)
  refine wpAny_bind (wpAny_typeNameOf' hT (by decide) ?_)
  exact wpAny_raiseTypeError hA (fun h' tk e y => hE h' tk e (NewX.of y)) (msg_fits _ (by decide +kernel))
/-- '- ' + line -/
theorem add_src {z : Str} {v : Value} {k : Int} (hA : A.handled = none) (S : Src s.heap z v k) (hk : k ≠ 3) (hx : x.length ≤ 100) (hz : z.length ≤ 100) (h0 : k = 0 → ∀ t' tk, Q (.str (x ++ z) t') { s with toks := tk })
    (hE : k ≠ 0 → ∀ h' tk e, NewX s.heap h' e "TypeError" → E (.ref e) { s with heap := h', toks := tk }) : wpAny (model prog w) A (binaryOp .Add (.str x t) v) Q E s := by
  cases S with
  | str u => exact PyProof.Rows.add_str (h0 rfl) (by rw [sizeLine_eq]; omega)
  | list a vs l e r => exact add_list hA l (hE (by omega))
  | bytes b u e => exact add_bytes hA (hE (by omega))
  | none => exact absurd rfl hk
end
end Mine

end
section -- Qf3
open PySem PySem.W PyProof.Rows PySem.Calls
set_option Elab.async false
set_option maxRecDepth 100000
namespace Mine
/-- what stands all the time -/
structure QCtx (w : World) (mean : ExcName → Option Value) (mg mb : Str → Option Value) (dp un : Nat) (lawE : Env) (h₀ : Heap) (L Lg : Nat) (x0 x1 h0 h1 : Str) : Prop where
  X : (K w.params).In h₀
  T : Top (q pw0) loose0 mean mg mb h₀
  h8 : h₀.get? 248 = none
  hL : h₀.objs.size ≤ L
  hl : L < Lg
  hf : lawE.frame = some L
  hk : lawE.scope.kind ≠ .module
  hd : dp + 10 < recursionLimit
  hu : un + 40 < cLine
  l0 : x0.length ≤ 100
  l1 : x1.length ≤ 100
  m0 : h0.length ≤ 100
  m1 : h1.length ≤ 100
/-- the frame's names behind the two first rows -/
structure QMap (v0 v1 : Value) (h0 h1 : Str) (m : Str → Option Value) : Prop where
  aline : m (Str.ofString "aline") = some v0
  bline : m (Str.ofString "bline") = some v1
  atags : ∃ t, m (Str.ofString "atags") = some (.str h0 t)
  btags : ∃ t, m (Str.ofString "btags") = some (.str h1 t)
/-- in a resume that began at s₀ -/
structure QAt (h₀ : Heap) (L Lg : Nat) (x0 x1 : Str) (v0 v1 : Value) (k0 k1 : Int) (lawE : Env) (s₀ s : Shared) (m : Str → Option Value) : Prop where
  ok : QOk h₀ L Lg x0 x1 v0 v1 k0 k1 s₀
  sg : SameG s₀ s
  F : Fr (hideAll (trunc s₀.heap Lg) [248]) Lg s.heap m
  fr : s.heap.FunFrames h₀ [lawE]
  N : ∃ go ps, s₀.heap.get? (Lg + 1) = some go ∧ TriplesOk ps.toList ∧ News (hideAll (trunc s₀.heap Lg) [248]) Lg s.heap [(Lg + 1, go), (248, tabObj ps)]
theorem len_ne (h : Str) : ((h.length : Int) != 0) = (h != Str.ofString "") := by
  have e : Str.ofString "" = ⟨#[]⟩ := by decide +kernel
  rw [e]
  obtain ⟨c⟩ := h
  by_cases q : c = #[]
  · subst q; decide
  · have l : c.size ≠ 0 := fun z => q (Array.size_eq_zero_iff.mp z)
    have a : ((Str.length ⟨c⟩ : Nat) : Int) ≠ 0 := by show ((c.size : Nat) : Int) ≠ 0; omega
    have b : (⟨c⟩ : Str) ≠ ⟨#[]⟩ := fun z => q (by injection z)
    rw [bne_iff_ne.mpr a, bne_iff_ne.mpr b]
section
variable {w : World} {mean : ExcName → Option Value} {mg mb : Str → Option Value} {dp un : Nat} {gd : Option (List Code)} {lawE : Env} {h₀ : Heap} {L Lg : Nat} {s s₀ : Shared} {m : Str → Option Value} {x0 x1 h0 h1 : Str} {v0 v1 : Value} {k0 k1 : Int}
theorem QAt.since (a : QAt h₀ L Lg x0 x1 v0 v1 k0 k1 lawE s₀ s m) : QSince Lg s₀ s :=
  let ⟨_, _, hgo, hps, N⟩ := a.N
  q_since hgo a.sg a.F N hps
theorem QAt.tk (a : QAt h₀ L Lg x0 x1 v0 v1 k0 k1 lawE s₀ s m) (tk : Nat) : QAt h₀ L Lg x0 x1 v0 v1 k0 k1 lawE s₀ { s with toks := tk } m := ⟨a.ok, ⟨a.sg.bare, a.sg.gens, a.sg.os, a.sg.drawn⟩, a.F, a.fr, a.N⟩
theorem QAt.start (C : QCtx w mean mg mb dp un lawE h₀ L Lg x0 x1 h0 h1) (ok : QOk h₀ L Lg x0 x1 v0 v1 k0 k1 s) (hn : s.heap.Ns Lg m) : QAt h₀ L Lg x0 x1 v0 v1 k0 k1 lawE s s m := by
  obtain ⟨go, ps, I⟩ := q_in (dp := dp) (un := un) (gd := none) C.X C.T C.h8 C.hL C.hl C.hf C.hk ok hn
  refine ⟨ok, SameG.refl s, I.F, I.B.frames.of_keeps fun b o e _ => ⟨o, I.F.keep b o e, rfl⟩, go, ps, (I.N _ (.head _)).1, I.ps, I.N⟩
theorem QSince.refl (Lg : Nat) (ht : HasTab s.heap) : QSince Lg s s := ⟨SameG.refl s, ht, fun _ _ _ _ _ e => e⟩
theorem QAt.tab (a : QAt h₀ L Lg x0 x1 v0 v1 k0 k1 lawE s₀ s m) : HasTab s.heap :=
  let ⟨_, ps, _, hps, N⟩ := a.N
  ⟨ps, hps, (N _ (.tail _ (.head _))).1⟩
theorem QAt.next (C : QCtx w mean mg mb dp un lawE h₀ L Lg x0 x1 h0 h1) (a : QAt h₀ L Lg x0 x1 v0 v1 k0 k1 lawE s₀ s m) {s'' : Shared} (e : s''.heap.get? Lg = s.heap.get? Lg) (ok : QOk h₀ L Lg x0 x1 v0 v1 k0 k1 s'') : QAt h₀ L Lg x0 x1 v0 v1 k0 k1 lawE s'' s'' m :=
  .start C ok (a.F.ns.at' fun o q => by rw [e]; exact q)
theorem srcT {x : Str} {v : Value} {k : Int} {n : Nat} {h h' : Heap} (S : Src (trunc h n) x v k) (ht : HasTab h) (hk : ∀ (b : Nat) o, b < n → b ≠ 248 → h.get? b = some o → h'.get? b = some o) : Src h' x v k := by
  cases S with
  | str t => exact .str t
  | list a vs l e r =>
    refine .list a vs ?_ e r
    obtain ⟨o, ho, hc, q⟩ := l
    have := trunc_of ho
    refine ⟨o, hk a o this.1 (fun n8 => ?_) this.2, hc, q⟩
    obtain ⟨ps, _, t⟩ := ht
    have q2 := this.2
    rw [n8, t] at q2; cases q2; cases hc
  | bytes b t e => exact .bytes b t e
  | none => exact .none
theorem QAt.src0 (a : QAt h₀ L Lg x0 x1 v0 v1 k0 k1 lawE s₀ s m) : Src s.heap x0 v0 k0 := srcT a.ok.src0 a.ok.tab fun _ _ h1 h2 e => a.F.keep _ _ (hidT h1 e h2)
theorem QAt.src1 (a : QAt h₀ L Lg x0 x1 v0 v1 k0 k1 lawE s₀ s m) : Src s.heap x1 v1 k1 := srcT a.ok.src1 a.ok.tab fun _ _ h1 h2 e => a.F.keep _ _ (hidT h1 e h2)
theorem qmsg {h : Str} (hh : h.length ≤ 100) : (Str.ofString "? " ++ h ++ Str.ofString "\n").length ≤ sizeLine := by
  rw [strLen_append, strLen_append, show (Str.ofString "? ").length = 2 from by decide +kernel, show (Str.ofString "\n").length = 1 from by decide +kernel, sizeLine_eq]; omega
/-- f'? {tags}\n' -/
theorem q_fstr {A : Around} {E : Value → Shared → Prop} {Q : Value → Shared → Prop} {g : Heap} {n : Str} {h : Str} {t : Tok} {p1 p2 p3 p4 p5 : Pos} (F : Fr g Lg s.heap m) (hn : m n = some (.str h t)) (hl : (qEnv Lg).kindOf n = some .local) (hd : (n == ("__debug__" : Str)) = false) (hh : h.length ≤ 100)
    (hQ : ∀ t' tk, Q (.str (Str.ofString "? " ++ h ++ Str.ofString "\n") t') { s with toks := tk }) :
    wpAny (qM w) A (eval (.JoinedStr [.Constant (.str (Str.ofString "? ")) 0 p1, .FormattedValue (.Name n p2) (-1) none p3, .Constant (.str (Str.ofString "\n")) 0 p4] p5) (qEnv Lg)) Q E s := by
  have e0 : Str.empty ++ Str.ofString "? " = Str.ofString "? " := Str.empty_append _
  refine wpAny_JoinedStr (wpAny_mono (Calls.Constant_str ?_) (fun _ _ x => x) fun _ _ x => x)
  refine ⟨_, _, rfl, by rw [e0, sizeLine_eq]; decide +kernel, ?_⟩
  rw [e0]
  show wpAny _ _ (eval (.FormattedValue (.Name n p2) (-1) none p3) (qEnv Lg)) _ _ _
  refine wpAny_FormattedValue_plain (ld (s := { s with toks := s.toks + 1 }) F hn (SB.field_str (fun t' tk => ?_) (by rw [sizeLine_eq]; omega)) rfl hl hd)
  refine ⟨_, _, rfl, Nat.le_trans ?_ (qmsg hh), ?_⟩
  · rw [strLen_append (x := Str.ofString "? " ++ h)]; exact Nat.le_add_right _ _
  show wpAny _ _ (eval (.Constant (.str (Str.ofString "\n")) 0 p4) (qEnv Lg)) _ _ _
  refine Calls.Constant_str ⟨_, _, rfl, qmsg hh, ?_⟩
  exact ⟨qmsg hh, hQ _ _⟩
abbrev qOkP (h₀ : Heap) (L Lg : Nat) (x0 x1 : Str) (v0 v1 : Value) (k0 k1 : Int) : Shared → Prop := QOk h₀ L Lg x0 x1 v0 v1 k0 k1
variable {rows pre : List Str} {fin : Option String}
theorem q_end (a : QAt h₀ L Lg x0 x1 v0 v1 k0 k1 lawE s₀ s m) (hfin : fin = none) :
    Seg (qM w) (arA dp un gd [lawE]) (qR Lg lawE fin) (qY Lg (qOkP h₀ L Lg x0 x1 v0 v1 k0 k1) rows) 0 s₀ (.func (fb_7_7 pw0) (qEnv Lg)) (qK .next) [] s := by
  subst hfin
  exact seg_end (.ok (.ret .none)) ⟨rfl, rfl, a.since⟩
set_option maxHeartbeats 4000000 in
theorem q_s4 (C : QCtx w mean mg mb dp un lawE h₀ L Lg x0 x1 h0 h1) (a : QAt h₀ L Lg x0 x1 v0 v1 k0 k1 lawE s₀ s m) (hm : QMap v0 v1 h0 h1 m) (hrows : rows = pre ++ tail1 h1) (hfin : fin = none) :
    Seg (qM w) (arA dp un gd [lawE]) (qR Lg lawE fin) (qY Lg (qOkP h₀ L Lg x0 x1 v0 v1 k0 k1) rows) (tail1 h1).length s₀ (.func (fb_7_7 pw0) (qEnv Lg)) ((execs ((fb_7_7 pw0).drop 6) (qEnv Lg)).wrap qK (qH Lg) id id) [] s := by
  obtain ⟨t, hb⟩ := hm.btags
  show Seg _ _ _ _ _ _ (.func (fb_7_7 pw0) (qEnv Lg)) ((execs (.If (.Name (Str.ofString "btags") _) [.Expr (.Yield (some (.JoinedStr [.Constant (.str (Str.ofString "? ")) 0 _, .FormattedValue (.Name (Str.ofString "btags") _) (-1) none _, .Constant (.str (Str.ofString "\n")) 0 _] _)) _) _] [] _ :: []) _).wrap _ _ _ _) _ _
  refine seg_If (isTrue_plain (ld a.F hb (PySem.P.truthy_str (by have := C.m1; omega) ?_) rfl rfl (by decide)) rfl)
  rw [len_ne]
  have a1 := a.tk (s.toks + 1 + 1)
  cases e : (h1 != Str.ofString "") with
  | false =>
    rw [tail_f e]
    exact seg_execs_nil (seg_execs_nil (q_end a1 hfin))
  | true =>
    rw [tail_t e] at hrows ⊢
    rw [if_pos rfl]
    refine seg_execs_cons (seg_Expr_Yield (n := 0) rfl rfl rfl ?_ rfl rfl)
    refine q_fstr a1.F hb rfl (by decide) C.m1 fun t' tk kap hkap => ⟨⟨t', ?_⟩, (a1.tk tk).since, fun s'' e'' ok => hkap .none s'' ?_⟩
    · rw [hrows]; exact congrArg (fun z => Value.str z t') (getD_mid pre [] _ _).symm
    · have a2 := (a1.tk tk).next C e'' ok
      exact seg_execs_nil (seg_execs_nil (q_end a2 hfin))
end
end Mine

end
section -- Qf4
open PySem PySem.W PyProof.Rows PySem.Calls
set_option Elab.async false
set_option maxRecDepth 100000
namespace Mine
theorem seg_Yield_raise {M : Model} {A : Around} {R : GenEnd} {Y : Protocol} {n : Nat} {s₀ : Shared} {c : Code} {fs : List Frame} {s : Shared} {env : Env} {K : Flow → Sem Fin} {H : Value → Sem Fin} {gd : Bool → Bool} {lv : List Value → List Value} {e : Expr} {ypos pos : Pos}
    (h : wpAny M (A.over c fs) (eval e env) (fun _ _ => False) (fun x s' => Seg M A R Y n s₀ c (H x) fs s') s) (hi : interactive env = false := by rfl) :
    Seg M A R Y n s₀ c ((exec (.Expr (.Yield (some e) ypos) pos) env).wrap K H gd lv) fs s := by
  rw [exec_Expr env _ pos hi rfl]
  show Seg M A R Y n s₀ c (.at pos fun _ => ((eval e env >>= fun v => (standAt ypos >>= fun _ => yieldOut env v)) >>= fun x =>
    dropValue (.Yield (some e) ypos) pos x).wrap K H gd lv) fs s
  refine seg_at ?_
  rw [Sem.bind_eq_wrap', Sem.bind_eq_wrap', Sem.wrap_wrap, Sem.wrap_wrap]
  exact seg_wrap (wpAny_mono h (fun _ _ q => q.elim) fun _ _ x => x)
section
variable {w : World} {mean : ExcName → Option Value} {mg mb : Str → Option Value} {dp un : Nat} {gd : Option (List Code)} {lawE : Env} {h₀ : Heap} {L Lg : Nat} {s s₀ : Shared} {m : Str → Option Value} {x0 x1 h0 h1 : Str} {v0 v1 : Value} {k0 k1 : Int}
variable {rows pre : List Str} {fin : Option String} {cls : String}
theorem gBase_of {b : Nat} {o : Obj} (e : (gBase Lg s₀).get? b = some o) : b < Lg + 2 ∧ b ≠ 248 ∧ b ≠ Lg ∧ s₀.heap.get? b = some o := by
  have h1 := trunc_of (of_hideAll _ e)
  exact ⟨h1.1, fun q => (by rw [q] at e; unfold gBase at e; rw [hideAll_none _ (.head _)] at e; cases e), fun q => (by rw [q] at e; unfold gBase at e; rw [hideAll_none _ (.tail _ (.head _))] at e; cases e), h1.2⟩
theorem gBase_no8 : NoFields (gBase Lg s₀) := fun o e => absurd rfl (gBase_of e).2.1
theorem gBase_noL : (gBase Lg s₀).get? Lg = none := hideAll_none _ (.tail _ (.head _))
theorem QAt.frames (C : QCtx w mean mg mb dp un lawE h₀ L Lg x0 x1 h0 h1) (a : QAt h₀ L Lg x0 x1 v0 v1 k0 k1 lawE s₀ s m) : s.heap.FunFrames h₀ [qEnv Lg, lawE] :=
  Heap.FunFrames.cons (by show (fs_7_7 pw0).kind ≠ .module; decide) rfl a.F.ns (Heap.get?_none_of_le (Nat.le_trans C.hL (Nat.le_of_lt C.hl))) a.fr
theorem q_raise (C : QCtx w mean mg mb dp un lawE h₀ L Lg x0 x1 h0 h1) (a : QAt h₀ L Lg x0 x1 v0 v1 k0 k1 lawE s₀ s m) {h' : Heap} {tk : Nat} {e : Addr} (x : NewX s.heap h' e cls) (hfin : fin = some cls) :
    Seg (qM w) (arA dp un gd [lawE]) (qR Lg lawE fin) (qY Lg (qOkP h₀ L Lg x0 x1 v0 v1 k0 k1) rows) 0 s₀ (.func (fb_7_7 pw0) (qEnv Lg)) (qH Lg (.ref e)) [] { s with heap := h', toks := tk } := by
  subst hfin
  obtain ⟨ob, vs, a0, he, hc, hd, v1, v0⟩ := x.there
  have kp : ∀ b o, (gBase Lg s₀).get? b = some o → s.heap.get? b = some o := fun b o q => let ⟨q1, q2, q3, q4⟩ := gBase_of q; a.since.keep b o q1 q2 q3 q4
  refine seg_wrap (leave_first (g := gBase Lg s₀) (outer := [lawE]) rfl rfl ((a.frames C).of_keeps fun b o q _ => ⟨o, x.keeps b o q, rfl⟩) (a.tab.keeps x.keeps) he hc hd v1 v0 gBase_noL ?_ (fun b o _ q => x.keeps b o (kp b o q)) gBase_no8 fun h'' fl => ?_)
  · cases q : (gBase Lg s₀).get? e with
    | none => rfl
    | some o => have q2 := kp e o q; rw [x.new] at q2; cases q2
  · exact seg_end (.error (.ref e)) ⟨rfl, e, rfl, ⟨a.sg.bare, a.sg.gens, a.sg.os, a.sg.drawn⟩, fl⟩
theorem q_on (a : QAt h₀ L Lg x0 x1 v0 v1 k0 k1 lawE s₀ s m) {s' : Shared} {e : Addr} (sg : SameG s s') (fl : Fly s.heap [qEnv Lg, lawE] e cls s'.heap) (hfin : fin = some cls) :
    Seg (qM w) (arA dp un gd [lawE]) (qR Lg lawE fin) (qY Lg (qOkP h₀ L Lg x0 x1 v0 v1 k0 k1) rows) 0 s₀ (.func (fb_7_7 pw0) (qEnv Lg)) (qH Lg (.ref e)) [] s' := by
  subst hfin
  refine seg_wrap (leave_on (g := gBase Lg s₀) (outer := [lawE]) rfl rfl fl gBase_noL (fun b o _ q => let ⟨q1, q2, q3, q4⟩ := gBase_of q; a.since.keep b o q1 q2 q3 q4) gBase_no8 fun h'' fl' => ?_)
  have sg2 := a.sg.trans sg
  exact seg_end (.error (.ref e)) ⟨rfl, e, rfl, ⟨sg2.bare, sg2.gens, sg2.os, sg2.drawn⟩, fl'⟩
def rows3 (x1 h1 : Str) (k1 : Int) : List Str := if k1 ≠ 0 then [] else (Str.ofString "+ " ++ x1) :: tail1 h1
def fin3 (k1 : Int) : Option String := if k1 ≠ 0 then some "TypeError" else none
set_option maxHeartbeats 4000000 in
theorem q_s3 (C : QCtx w mean mg mb dp un lawE h₀ L Lg x0 x1 h0 h1) (a : QAt h₀ L Lg x0 x1 v0 v1 k0 k1 lawE s₀ s m) (hm : QMap v0 v1 h0 h1 m) (hk : k1 ≠ 3) (hrows : rows = pre ++ rows3 x1 h1 k1) (hfin : fin = fin3 k1) :
    Seg (qM w) (arA dp un gd [lawE]) (qR Lg lawE fin) (qY Lg (qOkP h₀ L Lg x0 x1 v0 v1 k0 k1) rows) (rows3 x1 h1 k1).length s₀ (.func (fb_7_7 pw0) (qEnv Lg)) ((execs ((fb_7_7 pw0).drop 5) (qEnv Lg)).wrap qK (qH Lg) id id) [] s := by
  show Seg _ _ _ _ _ _ (.func (fb_7_7 pw0) (qEnv Lg)) ((execs (.Expr (.Yield (some (.BinOp (.Constant (.str (Str.ofString "+ ")) 0 _) .Add (.Name (Str.ofString "bline") _) _)) _) _ :: ((fb_7_7 pw0).drop 6)) _).wrap _ _ _ _) _ _
  by_cases q : k1 = 0
  · have e3 : rows3 x1 h1 k1 = (Str.ofString "+ " ++ x1) :: tail1 h1 := if_neg (fun z => z q)
    have ef : fin = none := hfin.trans (if_neg fun z => z q)
    rw [e3] at hrows ⊢
    refine seg_execs_cons (seg_Expr_Yield (n := (tail1 h1).length) rfl rfl rfl ?_ rfl rfl)
    refine wpAny_BinOp (Calls.Constant_str (ld (s := { s with toks := s.toks + 1 }) a.F hm.bline ?_ rfl rfl (by decide)))
    refine add_src (s := { s with toks := s.toks + 1 }) rfl a.src1 hk (by decide +kernel) C.l1 (fun _ t' tk kap hkap => ⟨⟨t', ?_⟩, (a.tk tk).since, fun s'' e'' ok => hkap .none s'' ?_⟩) fun z => absurd q z
    · rw [hrows]; exact congrArg (fun z => Value.str z t') (getD_mid pre _ _ _).symm
    · have a2 := (a.tk tk).next C e'' ok
      exact q_s4 (pre := pre ++ [Str.ofString "+ " ++ x1]) C a2 hm (by rw [hrows]; simp) ef
  · have e3 : rows3 x1 h1 k1 = [] := if_pos q
    have ef : fin = some "TypeError" := hfin.trans (if_pos q)
    rw [e3]
    refine seg_execs_cons (seg_Yield_raise ?_ rfl)
    refine wpAny_BinOp (Calls.Constant_str (ld (s := { s with toks := s.toks + 1 }) a.F hm.bline ?_ rfl rfl (by decide)))
    exact add_src (s := { s with toks := s.toks + 1 }) rfl a.src1 hk (by decide +kernel) C.l1 (fun z => absurd z q) fun _ h' tk e x => q_raise C a x ef
def rows2 (x1 h0 h1 : Str) (k1 : Int) : List Str := tail1 h0 ++ rows3 x1 h1 k1
set_option maxHeartbeats 4000000 in
theorem q_s2 (C : QCtx w mean mg mb dp un lawE h₀ L Lg x0 x1 h0 h1) (a : QAt h₀ L Lg x0 x1 v0 v1 k0 k1 lawE s₀ s m) (hm : QMap v0 v1 h0 h1 m) (hk : k1 ≠ 3) (hrows : rows = pre ++ rows2 x1 h0 h1 k1) (hfin : fin = fin3 k1) :
    Seg (qM w) (arA dp un gd [lawE]) (qR Lg lawE fin) (qY Lg (qOkP h₀ L Lg x0 x1 v0 v1 k0 k1) rows) (rows2 x1 h0 h1 k1).length s₀ (.func (fb_7_7 pw0) (qEnv Lg)) ((execs ((fb_7_7 pw0).drop 4) (qEnv Lg)).wrap qK (qH Lg) id id) [] s := by
  obtain ⟨t, hb⟩ := hm.atags
  show Seg _ _ _ _ _ _ (.func (fb_7_7 pw0) (qEnv Lg)) ((execs (.If (.Name (Str.ofString "atags") _) [.Expr (.Yield (some (.JoinedStr [.Constant (.str (Str.ofString "? ")) 0 _, .FormattedValue (.Name (Str.ofString "atags") _) (-1) none _, .Constant (.str (Str.ofString "\n")) 0 _] _)) _) _] [] _ :: ((fb_7_7 pw0).drop 5)) _).wrap _ _ _ _) _ _
  refine seg_If (isTrue_plain (ld a.F hb (PySem.P.truthy_str (by have := C.m0; omega) ?_) rfl rfl (by decide)) rfl)
  rw [len_ne]
  have a1 := a.tk (s.toks + 1 + 1)
  unfold rows2 at hrows ⊢
  cases e : (h0 != Str.ofString "") with
  | false =>
    rw [tail_f e] at hrows ⊢
    exact seg_execs_nil (q_s3 (pre := pre) C a1 hm hk hrows hfin)
  | true =>
    rw [tail_t e] at hrows ⊢
    rw [if_pos rfl]
    refine seg_execs_cons (seg_Expr_Yield (n := (rows3 x1 h1 k1).length) rfl rfl rfl ?_ rfl rfl)
    refine q_fstr a1.F hb rfl (by decide) C.m0 fun t' tk kap hkap => ⟨⟨t', ?_⟩, (a1.tk tk).since, fun s'' e'' ok => hkap .none s'' ?_⟩
    · rw [hrows]; exact congrArg (fun z => Value.str z t') (getD_mid pre _ _ _).symm
    · have a2 := (a1.tk tk).next C e'' ok
      exact seg_execs_nil (q_s3 (pre := pre ++ [Str.ofString "? " ++ h0 ++ Str.ofString "\n"]) C a2 hm hk (by rw [hrows]; simp) hfin)
def rows1 (x0 x1 h0 h1 : Str) (k0 k1 : Int) : List Str := if k0 ≠ 0 then [] else (Str.ofString "- " ++ x0) :: rows2 x1 h0 h1 k1
def fin1 (k0 k1 : Int) : Option String := if k0 ≠ 0 then some "TypeError" else fin3 k1
set_option maxHeartbeats 4000000 in
theorem q_s1 (C : QCtx w mean mg mb dp un lawE h₀ L Lg x0 x1 h0 h1) (a : QAt h₀ L Lg x0 x1 v0 v1 k0 k1 lawE s₀ s m) (hm : QMap v0 v1 h0 h1 m) (hk0 : k0 ≠ 3) (hk : k1 ≠ 3) (hrows : rows = rows1 x0 x1 h0 h1 k0 k1) (hfin : fin = fin1 k0 k1) :
    Seg (qM w) (arA dp un gd [lawE]) (qR Lg lawE fin) (qY Lg (qOkP h₀ L Lg x0 x1 v0 v1 k0 k1) rows) rows.length s₀ (.func (fb_7_7 pw0) (qEnv Lg)) ((execs ((fb_7_7 pw0).drop 3) (qEnv Lg)).wrap qK (qH Lg) id id) [] s := by
  show Seg _ _ _ _ _ _ (.func (fb_7_7 pw0) (qEnv Lg)) ((execs (.Expr (.Yield (some (.BinOp (.Constant (.str (Str.ofString "- ")) 0 _) .Add (.Name (Str.ofString "aline") _) _)) _) _ :: ((fb_7_7 pw0).drop 4)) _).wrap _ _ _ _) _ _
  by_cases q : k0 = 0
  · have e3 : rows = (Str.ofString "- " ++ x0) :: rows2 x1 h0 h1 k1 := hrows.trans (if_neg fun z => z q)
    have ef : fin = fin3 k1 := hfin.trans (if_neg fun z => z q)
    have el : rows.length = (rows2 x1 h0 h1 k1).length + 1 := by rw [e3]; rfl
    rw [el]
    refine seg_execs_cons (seg_Expr_Yield (n := (rows2 x1 h0 h1 k1).length) rfl rfl rfl ?_ rfl rfl)
    refine wpAny_BinOp (Calls.Constant_str (ld (s := { s with toks := s.toks + 1 }) a.F hm.aline ?_ rfl rfl (by decide)))
    refine add_src (s := { s with toks := s.toks + 1 }) rfl a.src0 hk0 (by decide +kernel) C.l0 (fun _ t' tk kap hkap => ⟨⟨t', ?_⟩, (a.tk tk).since, fun s'' e'' ok => hkap .none s'' ?_⟩) fun z => absurd q z
    · rw [e3]; exact congrArg (fun z => Value.str z t') (getD_mid [] _ _ _).symm
    · have a2 := (a.tk tk).next C e'' ok
      exact q_s2 (pre := [Str.ofString "- " ++ x0]) C a2 hm hk (by rw [e3]; rfl) ef
  · have e3 : rows = [] := hrows.trans (if_pos q)
    have ef : fin = some "TypeError" := hfin.trans (if_pos q)
    have el : rows.length = 0 := by rw [e3]; rfl
    rw [el]
    refine seg_execs_cons (seg_Yield_raise ?_ rfl)
    refine wpAny_BinOp (Calls.Constant_str (ld (s := { s with toks := s.toks + 1 }) a.F hm.aline ?_ rfl rfl (by decide)))
    exact add_src (s := { s with toks := s.toks + 1 }) rfl a.src0 hk0 (by decide +kernel) C.l0 (fun z => absurd z q) fun _ h' tk e x => q_raise C a x ef
end
end Mine

end
section -- Qf5
open PySem PySem.W PyProof.Rows PySem.Calls
set_option Elab.async false
set_option maxRecDepth 100000
set_option pp.maxSteps 3000
namespace Mine
def errOf (x y : Str) (k : Int) : Option String := if k = 2 ∧ blankIn x y = true then some "AttributeError" else if k = 3 then some "TypeError" else none
section
variable {w : World} {mean : ExcName → Option Value} {mg mb : Str → Option Value} {dp un : Nat} {gd : Option (List Code)} {lawE : Env} {h₀ : Heap} {L Lg : Nat} {s s₀ : Shared} {m : Str → Option Value} {x0 x1 h0 h1 : Str} {v0 v1 : Value} {k0 k1 : Int}
theorem QAt.ne8 (a : QAt h₀ L Lg x0 x1 v0 v1 k0 k1 lawE s₀ s m) : Lg ≠ 248 := fun q => by
  obtain ⟨ps, _, t⟩ := a.tab
  obtain ⟨o, es, ep, ho, hd, _⟩ := a.F.ns
  rw [q, t] at ho; cases ho; cases hd
theorem QAt.same (a : QAt h₀ L Lg x0 x1 v0 v1 k0 k1 lawE s₀ s m) {s' : Shared} (l8 : 248 < Lg) (t : SameT s s') : QAt h₀ L Lg x0 x1 v0 v1 k0 k1 lawE s₀ s' m := by
  obtain ⟨go, ps, hgo, hps, N⟩ := a.N
  obtain ⟨ps', hps', hP'⟩ := t.tab
  have ne : ∀ {b : Addr} {o : Obj}, s.heap.get? b = some o → (∀ vs, o.data ≠ .fields vs) → b ≠ 248 := fun e hd q => by
    obtain ⟨ps, _, t⟩ := a.tab
    rw [q, t] at e; cases e; exact hd _ rfl
  refine ⟨a.ok, a.sg.trans t.toSameG, ⟨a.F.ns.at' fun o e => t.keep _ _ a.ne8 e, fun b o e => t.keep b o (fun q => ?_) (a.F.keep b o e), a.F.above⟩, a.fr.of_keeps fun b o e hd => ⟨o, t.keep b o (ne e hd) e, rfl⟩, go, ps', hgo, hps', fun q hq => ?_⟩
  · rw [q, hideAll_none _ (.head _)] at e; cases e
  · rcases List.mem_cons.mp hq with rfl | hq
    · have n := N _ (.head _)
      refine ⟨t.keep _ _ (fun q => ?_) n.1, n.2⟩
      have q1 : @Eq Nat (Lg + 1) 248 := q
      omega
    · rw [List.mem_singleton.mp hq]
      have n := N _ (.tail _ (.head _))
      exact ⟨hP', n.2⟩
theorem QCtx.l8 (C : QCtx w mean mg mb dp un lawE h₀ L Lg x0 x1 h0 h1) : 248 < Lg := by
  have l : @LT.lt Nat _ 336 h₀.objs.size := Heap.lt_size (C.X 336 _ rfl)
  have := C.hL
  have := C.hl
  omega
/-- a name of the frame stored -/
theorem QAt.store (a : QAt h₀ L Lg x0 x1 v0 v1 k0 k1 lawE s₀ s m) (l8 : 248 < Lg) {h' : Heap} {tk : Nat} {m' : Str → Option Value} (hn : h'.Ns Lg m') (hs : Heap.SameBut Lg s.heap h') (hl : lawE.frame = some L) (hL : L < Lg) :
    QAt h₀ L Lg x0 x1 v0 v1 k0 k1 lawE s₀ { s with heap := h', toks := tk } m' := by
  obtain ⟨go, ps, hgo, hps, N⟩ := a.N
  have kp : ∀ b o, b ≠ Lg → s.heap.get? b = some o → h'.get? b = some o := fun b o n e => hs.extBut b o n e
  refine ⟨a.ok, a.sg.step, ⟨hn, fun b o e => kp b o (fun q => ?_) (a.F.keep b o e), a.F.above⟩, ?_, go, ps, hgo, hps, fun q hq => ⟨kp _ _ (N q hq).2.1 (N q hq).1, (N q hq).2⟩⟩
  · rw [q, show (hideAll (trunc s₀.heap Lg) [248]).get? Lg = none from Heap.get?_none_of_le a.F.above] at e; cases e
  · obtain ⟨h1, ⟨L', o, hf, hn', ho, hd⟩, h3⟩ := a.fr
    obtain rfl : L = L' := by rw [hl] at hf; exact Option.some.inj hf
    exact ⟨h1, ⟨L, o, hf, hn', kp L o (Nat.ne_of_lt hL) ho, hd⟩, h3⟩
theorem QAt.below (C : QCtx w mean mg mb dp un lawE h₀ L Lg x0 x1 h0 h1) (a : QAt h₀ L Lg x0 x1 v0 v1 k0 k1 lawE s₀ s m) : Below ((arA dp un gd [lawE]).deeper (qEnv Lg)) h₀ [qEnv Lg, lawE] s.heap :=
  ⟨rfl, fun b o e => a.F.keep b o (hidT (Nat.lt_trans (Nat.lt_of_lt_of_le (Heap.lt_size e) C.hL) C.hl) (a.ok.stays b o e) fun q => by rw [q, C.h8] at e; cases e), a.frames C⟩
/-- the call of _keep_original_ws -/
theorem kw_at (C : QCtx w mean mg mb dp un lawE h₀ L Lg x0 x1 h0 h1) (a : QAt h₀ L Lg x0 x1 v0 v1 k0 k1 lawE s₀ s m) {x y : Str} {v : Value} {k : Int} {t2 : Tok} {Q E : Value → Shared → Prop} (S : Src s.heap x v k) (ha : Alpha x) (hy : TagA y) (hx : x.length ≤ 100)
    (hok : errOf x y k = none → k ≠ 3 → ∀ t s', QAt h₀ L Lg x0 x1 v0 v1 k0 k1 lawE s₀ s' m → Q (.str (layN x y (minL x y)) t) s')
    (hbad : ∀ cls, errOf x y k = some cls → ∀ e s', SameG s s' → Fly s.heap [qEnv Lg, lawE] e cls s'.heap → E (.ref e) s') :
    wpAny (qM w) ((arA dp un gd [lawE]).deeper (qEnv Lg)) (call (.ref 253) [v, .str y t2]) Q E s := by
  have B := a.below (dp := dp) (un := un) (gd := gd) C
  have X := C.X.keeps B.stays
  have T := C.T.keeps B.stays
  refine wpAny_call (kw_pure w mean mg mb (dp + 1) (un + 3) gd [qEnv Lg, lawE] _ h₀ s _ x v k y t2 S ha hy hx a.tab B X T (by have := C.hd; omega) (by have := C.hu; omega) (fun k3 nb t s' st => ?_) (fun hb e s' sg fl => ?_) (fun k3 e s' sg fl => ?_))
  · refine hok ?_ k3 t s' (a.same C.l8 st)
    unfold errOf; rw [if_neg nb, if_neg k3]
  · exact hbad _ (if_pos hb) e s' sg fl
  · refine hbad "TypeError" ?_ e s' sg fl
    unfold errOf; rw [if_neg (fun q => by omega), if_pos k3]
end
end Mine

end
section -- Qf6
open PySem PySem.W PyProof.Rows PySem.Calls
set_option Elab.async false
set_option maxRecDepth 100000
set_option pp.maxSteps 3000
namespace Mine
noncomputable def tagF (x y : Str) : Str := Txt.rstrip (layN x y (minL x y))
noncomputable def fin0 (x0 x1 g0 g1 : Str) (k0 k1 : Int) : Option String := match errOf x0 g0 k0 with
  | some c => some c
  | none => match errOf x1 g1 k1 with
    | some c => some c
    | none => fin1 k0 k1
noncomputable def rows0 (x0 x1 g0 g1 : Str) (k0 k1 : Int) : List Str := match errOf x0 g0 k0 with
  | some _ => []
  | none => match errOf x1 g1 k1 with
    | some _ => []
    | none => rows1 x0 x1 (tagF x0 g0) (tagF x1 g1) k0 k1
abbrev qBinds (sv v0 v1 : Value) (g0 g1 : Str) (t0 t1 : Tok) : Str → Option Value := fun x => ([(Str.ofString "self", sv), (Str.ofString "aline", v0), (Str.ofString "bline", v1), (Str.ofString "atags", .str g0 t0), (Str.ofString "btags", .str g1 t1)].reverse).lookup x
theorem lay_len (x y : Str) : ∀ n : Nat, (layN x y n).length = n
  | 0 => by show (Str.ofString "").length = 0; decide +kernel
  | n + 1 => by
    show (layN x y n ++ sgn x y n).length = n + 1
    rw [strLen_append, lay_len x y n, sgn_len]
theorem lay_fits {x y : Str} (h : x.length ≤ 100) : (layN x y (minL x y)).length ≤ sizeLine := by
  rw [lay_len, sizeLine_eq]; unfold minL; omega
section
variable {w : World} {mean : ExcName → Option Value} {mg mb : Str → Option Value} {dp un : Nat} {gd : Option (List Code)} {lawE : Env} {h₀ : Heap} {L Lg : Nat} {s s₀ : Shared} {m : Str → Option Value} {x0 x1 g0 g1 : Str} {v0 v1 sv : Value} {k0 k1 : Int} {t0 t1 : Tok}
set_option maxHeartbeats 8000000 in
theorem q_s0 (C : QCtx w mean mg mb dp un lawE h₀ L Lg x0 x1 (tagF x0 g0) (tagF x1 g1)) (ok : QOk h₀ L Lg x0 x1 v0 v1 k0 k1 s) (hn : s.heap.Ns Lg (qBinds sv v0 v1 g0 g1 t0 t1)) (a0 : Alpha x0) (a1 : Alpha x1) (y0 : TagA g0) (y1 : TagA g1) :
    Seg (qM w) (arA dp un gd [lawE]) (qR Lg lawE (fin0 x0 x1 g0 g1 k0 k1)) (qY Lg (qOkP h₀ L Lg x0 x1 v0 v1 k0 k1) (rows0 x0 x1 g0 g1 k0 k1)) (rows0 x0 x1 g0 g1 k0 k1).length s (.func (fb_7_7 pw0) (qEnv Lg)) ((qM w).den (.func (fb_7_7 pw0) (qEnv Lg))) [] s := by
  have a := QAt.start (v0 := v0) (v1 := v1) (k0 := k0) (k1 := k1) C ok hn
  obtain ⟨go, ps, I⟩ := q_in (dp := dp) (un := un) (gd := gd) C.X C.T C.h8 C.hL C.hl C.hf C.hk ok hn
  have B := I.B
  have T := I.T
  have X := I.X
  have hd := C.hd
  have hu := C.hu
  clear I
  revert X
  show (K w.params).In _ → Seg (model PySem.Challenge.rw_dm0062_06.row.prog w) _ _ _ _ _ _ _ _ _
  k_fill
  intro X
  refine seg_func ?_
  show Seg _ _ _ _ _ _ (.func (fb_7_7 pw0) (qEnv Lg)) ((execs (_ :: .Assign [.Name (Str.ofString "atags") _] (.Call (.Attribute (.Call (.Name (Str.ofString "_keep_original_ws") _) [.Name (Str.ofString "aline") _, .Name (Str.ofString "atags") _] [] _) (Str.ofString "rstrip") _) [] [] _) _
    :: .Assign [.Name (Str.ofString "btags") _] (.Call (.Attribute (.Call (.Name (Str.ofString "_keep_original_ws") _) [.Name (Str.ofString "bline") _, .Name (Str.ofString "btags") _] [] _) (Str.ofString "rstrip") _) [] [] _) _ :: (fb_7_7 pw0).drop 3) _).wrap _ _ _ _) _ _
  refine seg_plain ?_
  show wpAny _ ((arA dp un gd [lawE]).deeper (qEnv Lg)) (exec _ _) _ _ _
  walk1
  walk1
  (try dsimp only)
  -- the first call
  refine seg_plain (wpAny_Assign_Name (Call_method0 rfl rfl ?_) rfl)
  show wpAny _ ((arA dp un gd [lawE]).deeper (qEnv Lg)) (eval _ _) _ _ _
  have F := a.F
  obtain ⟨go1, ps1, _, _, N⟩ := a.N
  repeat' (first | (fail_if_success (with_reducible show wpAny _ _ (call (Value.ref _) _) _ _ _)); first | (k_unfold; (try dsimp only)) | walk1 | (dsimp only; walk1) | fail "no step")
  refine kw_at C (a.tk _) a.src0 a0 y0 C.l0 (fun en k3 t s1 aq => SB.rstrip (fun t' tk => ?_) (lay_fits C.l0)) (fun cls ec e s1 sg fl => ?_)
  · refine wpAny_storeName_local rfl (aq.tk tk).F.ns (fun h2 hn2 hs2 => ?_) rfl
    have b := (aq.tk tk).store (tk := tk) C.l8 hn2 hs2 C.hf C.hl
    clear F N
    show Seg _ _ _ _ _ _ (.func (fb_7_7 pw0) (qEnv Lg)) ((execs (_ :: (fb_7_7 pw0).drop 3) _).wrap _ _ _ _) _ _
    refine seg_plain (wpAny_Assign_Name (Call_method0 rfl rfl ?_) rfl)
    show wpAny _ ((arA dp un gd [lawE]).deeper (qEnv Lg)) (eval _ _) _ _ _
    have F := b.F
    obtain ⟨go2, ps2, _, _, N⟩ := b.N
    repeat' (first | (fail_if_success (with_reducible show wpAny _ _ (call (Value.ref _) _) _ _ _)); first | (k_unfold; (try dsimp only)) | walk1 | (dsimp only; walk1) | fail "no step")
    refine' kw_at C (b.tk _) b.src1 a1 y1 C.l1 ?hok ?hbad
    · intro en1 k31 t1' s2 bq
      refine SB.rstrip (fun t2' tk2 => ?_) (lay_fits C.l1)
      refine wpAny_storeName_local rfl (bq.tk tk2).F.ns (fun h3 hn3 hs3 => ?_) rfl
      have c := (bq.tk tk2).store (tk := tk2) C.l8 hn3 hs3 C.hf C.hl
      have ef : fin0 x0 x1 g0 g1 k0 k1 = fin1 k0 k1 := by unfold fin0; rw [en, en1]
      have er : rows0 x0 x1 g0 g1 k0 k1 = rows1 x0 x1 (tagF x0 g0) (tagF x1 g1) k0 k1 := by unfold rows0; rw [en, en1]
      rw [ef, er]
      have hm : QMap v0 v1 (tagF x0 g0) (tagF x1 g1) (fun x => if x = Str.ofString "btags" then some (Value.str (tagF x1 g1) t2') else if x = Str.ofString "atags" then some (Value.str (tagF x0 g0) t') else qBinds sv v0 v1 g0 g1 t0 t1 x) := ⟨rfl, rfl, ⟨t', rfl⟩, ⟨t2', rfl⟩⟩
      exact q_s1 C (c.tk _) hm k3 k31 rfl rfl
    · intro cls ec e s2 sg fl
      have ef : fin0 x0 x1 g0 g1 k0 k1 = some cls := by unfold fin0; rw [en, ec]
      have er : rows0 x0 x1 g0 g1 k0 k1 = [] := by unfold rows0; rw [en, ec]
      rw [ef, er]
      exact q_on (b.tk _) sg fl rfl
  · have ef : fin0 x0 x1 g0 g1 k0 k1 = some cls := by unfold fin0; rw [ec]
    have er : rows0 x0 x1 g0 g1 k0 k1 = [] := by unfold rows0; rw [ec]
    rw [ef, er]
    exact q_on (a.tk _) sg fl rfl
end
end Mine

end
section -- Lw1
open PySem PySem.W PyProof.Rows PySem.Calls
set_option Elab.async false
set_option maxRecDepth 100000
namespace Mine
/-- what a step of the generator leaves, for its caller -/
structure QStep (Lg : Nat) (s s' : Shared) : Prop where
  bare : AllBare s.gens → AllBare s'.gens
  os : s'.os = s.os
  drawn : s'.drawn = s.drawn
section
variable {w : World} {mean : ExcName → Option Value} {mg mb : Str → Option Value} {dp un : Nat} {gd : Option (List Code)} {lawE : Env} {h₀ : Heap} {L Lg gi : Nat} {s : Shared} {x0 x1 h0 h1 : Str} {v0 v1 : Value} {k0 k1 : Int} {rows : List Str} {fin : Option String}
/-- the generator, with n rows left -/
def QGen (w : World) (dp un : Nat) (gd : Option (List Code)) (lawE : Env) (h₀ : Heap) (L Lg gi : Nat) (x0 x1 : Str) (v0 v1 : Value) (k0 k1 : Int) (rows : List Str) (fin : Option String) (n : Nat) (s : Shared) : Prop :=
  s.heap.IsGen (Lg + 1) gi ∧ ∃ gs, s.gens[gi]? = some gs ∧ ∀ s'' : Shared, s''.heap.get? Lg = s.heap.get? Lg → QOk h₀ L Lg x0 x1 v0 v1 k0 k1 s'' →
    gs.Goes (qM w) (arA dp (un + 1) gd [lawE]) (qR Lg lawE fin) (qY Lg (qOkP h₀ L Lg x0 x1 v0 v1 k0 k1) rows) n (.send .none) s''
theorem setBare {a : Array GenState} {i : Nat} {g : GenState} (h : AllBare a) (hg : g.bare = true) : AllBare (a.setIfInBounds i g) := fun y hy => by
  obtain ⟨j, hj, rfl⟩ := Array.mem_iff_getElem.mp hy
  have hj' : j < a.size := by simpa using hj
  rw [Array.getElem_setIfInBounds hj']
  split
  · exact hg
  · exact h _ (Array.getElem_mem _)
theorem isGen_of {g h : Heap} {a : Nat} {gi : Nat} (x : g.IsGen a gi) (k : ∀ o, g.get? a = some o → h.get? a = some o) : h.IsGen a gi := let ⟨o, nm, qn, ho, r⟩ := x; ⟨o, nm, qn, k o ho, r⟩
theorem srcTT {x : Str} {v : Value} {k : Int} {h h' : Heap} (S : Src (trunc h Lg) x v k) (ht : HasTab h) (hk : ∀ (b : Nat) o, b < Lg → b ≠ 248 → h.get? b = some o → h'.get? b = some o) : Src (trunc h' Lg) x v k := by
  cases S with
  | str t => exact .str t
  | list a vs l e r =>
    refine .list a vs ?_ e r
    obtain ⟨o, ho, hc, q⟩ := l
    have := trunc_of ho
    refine ⟨o, (trunc_get this.1).trans (hk a o this.1 (fun n8 => ?_) this.2), hc, q⟩
    obtain ⟨ps, _, t⟩ := ht
    have q2 := this.2
    rw [n8, t] at q2; cases q2; cases hc
  | bytes b t e => exact .bytes b t e
  | none => exact .none
theorem QOk.step (C : QCtx w mean mg mb dp un lawE h₀ L Lg x0 x1 h0 h1) (ok : QOk h₀ L Lg x0 x1 v0 v1 k0 k1 s) {s' : Shared} (tb : HasTab s'.heap) (kp : ∀ (b : Nat) o, b < Lg + 2 → b ≠ 248 → b ≠ Lg → s.heap.get? b = some o → s'.heap.get? b = some o) : QOk h₀ L Lg x0 x1 v0 v1 k0 k1 s' where
  stays := fun b o e => by
    have l : @LT.lt Nat _ b L := Nat.lt_of_lt_of_le (Heap.lt_size e) C.hL
    have := C.hl
    exact kp b o (by omega) (fun q => by rw [q, C.h8] at e; cases e) (nne (by omega)) (ok.stays b o e)
  tab := tb
  law := by
    obtain ⟨ml, hml⟩ := ok.law
    have := C.hl
    refine ⟨ml, hml.at' fun o e => kp L o (by omega) (fun q => ?_) (by omega) e⟩
    obtain ⟨ps, _, t⟩ := ok.tab
    obtain ⟨o', es, ep, ho, hd, _⟩ := hml
    rw [q, t] at ho; cases ho; cases hd
  gen := by
    obtain ⟨go, e⟩ := ok.gen
    have := C.l8
    exact ⟨go, kp _ _ (by omega) (by omega) (by omega) e⟩
  src0 := srcTT ok.src0 ok.tab fun b o h1 h2 e => kp b o (by omega) h2 (by omega) e
  src1 := srcTT ok.src1 ok.tab fun b o h1 h2 e => kp b o (by omega) h2 (by omega) e
theorem q_item (C : QCtx w mean mg mb dp (un + 1) lawE h₀ L Lg x0 x1 h0 h1) (ok : QOk h₀ L Lg x0 x1 v0 v1 k0 k1 s) {n : Nat} (st : QGen w dp un gd lawE h₀ L Lg gi x0 x1 v0 v1 k0 k1 rows fin (n + 1) s) {Q : Option Value → Shared → Prop} {E : Value → Shared → Prop}
    (hQ : ∀ t s', QStep Lg s s' → HasTab s'.heap → (∀ (b : Nat) o, b < Lg + 2 → b ≠ 248 → b ≠ Lg → s.heap.get? b = some o → s'.heap.get? b = some o) → QGen w dp un gd lawE h₀ L Lg gi x0 x1 v0 v1 k0 k1 rows fin n s' →
      Q (some (.str (rows.getD (rows.length - 1 - n) (Str.ofString "")) t)) s') :
    wpAny (qM w) (arA dp un gd [lawE]) (pyNext (.ref (Lg + 1))) Q E s := by
  obtain ⟨hg, gs, hgs, hgo⟩ := st
  refine pyNext_genX (A := arA dp un gd [lawE]) (n := n + 1) (R := qR Lg lawE fin) (Y := qY Lg (qOkP h₀ L Lg x0 x1 v0 v1 k0 k1) rows) rfl (C.T.nolimit.keeps ok.stays) (by show dp < _; have := C.hd; omega) hg hgs (hgo _ rfl ⟨ok.stays, ok.tab, ok.law, ok.gen, ok.src0, ok.src1⟩) (fun v s₁ gs' hb hv => ?_) (fun r s₁ hp => ?_)
  · obtain ⟨⟨t, rfl⟩, sc, hkap⟩ := hv
    have hsz : gi < s.gens.size := (Array.getElem?_eq_some_iff.mp hgs).1
    have hrun : (s.setGen gi .running).gens[gi]? = some .running := setGen_self hgs
    have h1 : s₁.gens[gi]? = some .running := by
      rw [sc.gens gi (by show gi < (s.gens.setIfInBounds gi _).size; rw [Array.size_setIfInBounds]; exact hsz)]
      exact hrun
    refine hQ t _ ⟨fun hb0 => setBare (sc.bare (setBare hb0 rfl)) hb, sc.os, sc.drawn⟩ sc.tab (fun b o a1 a2 a3 e => sc.keep b o a1 a2 a3 e) ⟨isGen_of hg fun o e => sc.keep (Lg + 1) o (by omega) (by have := C.l8; omega) (by omega) e, gs', setGen_self h1, fun s'' e ok'' => ?_⟩
    exact hkap s'' e ok''
  · exact absurd hp.1 (Nat.succ_ne_zero n)
theorem q_done (C : QCtx w mean mg mb dp (un + 1) lawE h₀ L Lg x0 x1 h0 h1) (ok : QOk h₀ L Lg x0 x1 v0 v1 k0 k1 s) (st : QGen w dp un gd lawE h₀ L Lg gi x0 x1 v0 v1 k0 k1 rows fin 0 s) {Q : Option Value → Shared → Prop} {E : Value → Shared → Prop}
    (hns : ∀ cls, fin = some cls → isSubtype (.type cls) (.type "StopIteration") = pure false)
    (hQ : fin = none → ∀ s', QStep Lg s s' → HasTab s'.heap → (∀ (b : Nat) o, b < Lg + 2 → b ≠ 248 → b ≠ Lg → s.heap.get? b = some o → s'.heap.get? b = some o) → Q none s')
    (hE : ∀ cls, fin = some cls → ∀ e s', QStep Lg s s' → Fly (gBase Lg s) [lawE] e cls s'.heap → E (.ref e) s') :
    wpAny (qM w) (arA dp un gd [lawE]) (pyNext (.ref (Lg + 1))) Q E s := by
  obtain ⟨hg, gs, hgs, hgo⟩ := st
  refine pyNext_genX (A := arA dp un gd [lawE]) (n := 0) (R := qR Lg lawE fin) (Y := qY Lg (qOkP h₀ L Lg x0 x1 v0 v1 k0 k1) rows) rfl (C.T.nolimit.keeps ok.stays) (by show dp < _; have := C.hd; omega) hg hgs (hgo _ rfl ⟨ok.stays, ok.tab, ok.law, ok.gen, ok.src0, ok.src1⟩) (fun v s₁ gs' hb hv => ?_) (fun r s₁ hp => ?_)
  · obtain ⟨_, sc, hkap⟩ := hv
    exact (hkap s₁ rfl (QOk.step (s := s.setGen gi .running) C ⟨ok.stays, ok.tab, ok.law, ok.gen, ok.src0, ok.src1⟩ sc.tab sc.keep) : False).elim
  · cases fin with
    | none =>
      obtain ⟨_, rfl, sc⟩ := hp
      refine .inl ⟨.inl rfl, fun h' hk => hQ rfl _ ⟨fun hb0 => setBare (sc.bare (setBare hb0 rfl)) rfl, sc.os, sc.drawn⟩ (sc.tab.keeps hk) fun b o a1 a2 a3 e => hk b o (sc.keep b o a1 a2 a3 e)⟩
    | some cls =>
      obtain ⟨_, e, rfl, sg, fl⟩ := hp
      refine .inr ⟨.ref e, rfl, ?_, ?_, hE cls rfl e _ ⟨fun hb0 => setBare (sg.bare (setBare hb0 rfl)) rfl, sg.os, sg.drawn⟩ fl⟩
      · have hl : L ≠ Lg + 1 := by have := C.hl; omega
        have h8 : (Lg + 1 : Nat) ≠ 248 := by have := C.l8; omega
        refine isGen_of hg fun o q => fl.keep (Lg + 1) o h8 (fun hm => ?_) ?_
        · unfold frs at hm
          rw [List.filterMap_cons, C.hf] at hm
          exact hl (List.mem_singleton.mp hm).symm
        · exact hideAll_get _ (by rw [trunc_get (Nat.lt_succ_self _)]; exact q) fun hm => by
            rcases List.mem_cons.mp hm with q1 | q1
            · exact h8 q1
            · exact absurd (List.mem_singleton.mp q1) (Nat.succ_ne_self Lg)
      · intro A' Q' E' hq
        obtain ⟨ob, ho, hc⟩ := fl.there
        exact wpAny_isInstance (T := cls) (b := false) ⟨ob, ho, hc⟩ (hns cls rfl) hq
end
end Mine

end
section -- Lw2
open PySem PySem.W PyProof.Rows PySem.Calls
set_option Elab.async false
set_option maxRecDepth 100000
namespace Mine
section
variable {w : World} {mean : ExcName → Option Value} {mg mb : Str → Option Value} {dp un : Nat} {gd : Option (List Code)} {lawE : Env} {h₀ : Heap} {L : Nat} {s : Shared} {v0 v1 sv : Value} {g0 g1 : Str} {t0 t1 : Tok}
theorem gen_call {Q E : Value → Shared → Prop} (X : (K w.params).In s.heap) (hlim : s.heap.NoLimit) (hd : dp + 10 < recursionLimit)
    (hQ : ∀ (h1 : Heap) (tk : Nat) (nm qn : Value), h1.Ns s.heap.objs.size (qBinds sv v0 v1 g0 g1 t0 t1) → (∀ b o, s.heap.get? b = some o → h1.get? b = some o) → @Eq Nat h1.objs.size (s.heap.objs.size + 1) →
      Q (.ref (s.heap.objs.size + 1)) { s with gens := s.gens.push (.fresh (.func (fb_7_7 pw0) (qEnv s.heap.objs.size))), toks := tk, heap := h1.push { cls := .type "generator", data := .fields #[.int s.gens.size 0, nm, qn] } }) :
    wpAny (qM w) (arA dp un gd [lawE]) (call (.ref 310) [sv, v0, v1, .str g0 t0, .str g1 t1]) Q E s := by
  have ho := X 310 _ rfl
  have hcd : codeIn (K w.params) (.ref 309) (Str.ofString "Differ._qformat") = true := by rfl
  refine wpAny_call (codeAny_call_generator (by show dp < _; omega) ho rfl rfl rfl rfl (codeRec_of X hcd) ?_)
  have hb : BindsTo s (fnOf (Str.ofString "_qformat") (Str.ofString "Differ._qformat") (fa_7_7 pw0) (fb_7_7 pw0) (fs_7_7 pw0) .none .none (.str (fd_7_7 pw0) 733) (.str (Str.ofString "cpy313.difflib") 194) none (.ref 309) .none) ⟨[sv, v0, v1, .str g0 t0, .str g1 t1], []⟩ [(Str.ofString "self", sv), (Str.ofString "aline", v0), (Str.ofString "bline", v1), (Str.ofString "atags", .str g0 t0), (Str.ofString "btags", .str g1 t1)] := BindsTo.of_eq rfl
  refine hb _ _ _ _ ?_
  refine wpAny_newFunctionEnv (by decide) (locs rfl) (fun h1 hn1 hs1 => ?_) rfl
  have hsz : @Eq Nat h1.objs.size (s.heap.objs.size + 1) := by rw [hs1.1, Heap.size_push]
  have kp : ∀ b o, s.heap.get? b = some o → h1.get? b = some o := fun b o e => hs1.extBut b o (Nat.ne_of_lt (Heap.lt_size e)) (Heap.get?_push_of_some _ e)
  refine ⟨hlim.keeps kp, ?_⟩
  have q := hQ h1 (s.toks + 5 + 1 + 1) (.str (Str.ofString "_qformat") (s.toks + 5)) (.str (Str.ofString "Differ._qformat") (s.toks + 5 + 1)) hn1 kp hsz
  rw [← hsz] at q
  exact q
end
end Mine

end
section -- Lw3
open PySem PySem.W PyProof.Rows PySem.Calls
set_option Elab.async false
set_option maxRecDepth 100000
namespace Mine
noncomputable abbrev lawE (L : Addr) : Env := envOf (Str.ofString "law") (fs_11 pw0) L 336 (.ref 335)
section
variable {w : World} {A : Around} {E : Value → Shared → Prop} {s : Shared} {L tl : Nat} {m : Str → Option Value} {Q : Flow → Shared → Prop}
/-- told.append(x), where x is a name of the law's or a text -/
theorem told_append {vs : Array Value} {n : Nat} {v : Value} {e : Expr} {p1 p2 p3 p5 : Pos} (hn : s.heap.Ns L m) (ht : m (Str.ofString "told") = some (.ref tl)) (ho : s.heap.get? tl = some (W.listOf vs n)) (hl : (p2.endLine == p3.line) = true)
    (hst : starEach [e] (lawE L) = [(false, eval e (lawE L))])
    (he : ∀ Q' : Value → Shared → Prop, (∀ tk, Q' v { s with toks := tk }) → wpAny (qM w) A (eval e (lawE L)) Q' E s)
    (hsz : vs.size ≤ 1000) (hsw : swapsWith (.Call (.Attribute (.Name (Str.ofString "told") p1) (Str.ofString "append") p2) [e] [] p3) none p5.line (lawE L) = pure false)
    (hQ : ∀ h' tk n', h'.get? tl = some (W.listOf (vs.push v) n') → Heap.SameBut tl s.heap h' → Q .next { s with heap := h', toks := tk }) :
    wpAny (qM w) A (exec (.Expr (.Call (.Attribute (.Name (Str.ofString "told") p1) (Str.ofString "append") p2) [e] [] p3) p5) (lawE L)) Q E s := by
  refine wpAny_Expr (Call_method1 rfl hst hl (ldC rfl rfl hn ht ⟨"list", "list.append", PySem.F.plainAttrs_list, slot_list_append, type_list_append, ⟨_, ho, rfl⟩, fun a e => ⟨_, by cases e; exact ho, rfl⟩, ?_⟩)) rfl hsw
  refine Calls.callWith_builtin rfl (Calls.evalArgs_plain (Calls.spliced_cons (he _ fun tk => Calls.spliced_nil ?_)))
  refine wpAny_list_append_plain (s := { s with toks := tk }) ⟨n, ho⟩ (fun h' hp hs => ?_) (by rw [sizeLine_eq]; omega)
  obtain ⟨n', hp⟩ := hp
  exact hQ h' tk n' hp hs
end
end Mine

end
section -- Lw4
open PySem PySem.W PyProof.Rows PySem.Calls
set_option Elab.async false
set_option maxRecDepth 100000
namespace Mine
theorem StrsAre.snoc {d : Str} {t : Tok} : ∀ {vs : List Value} {ds : List Str}, StrsAre vs ds → StrsAre (vs ++ [.str d t]) (ds ++ [d])
  | _, _, .nil => .cons ⟨t, rfl⟩ .nil
  | _, _, .cons h r => .cons h r.snoc
theorem StrsAre.length_eq : ∀ {vs : List Value} {ds : List Str}, StrsAre vs ds → vs.length = ds.length
  | _, _, .nil => rfl
  | _, _, .cons _ r => congrArg (· + 1) r.length_eq
section
variable {w : World} {mean : ExcName → Option Value} {mg mb : Str → Option Value} {dp un : Nat} {gd : Option (List Code)} {h₀ : Heap} {L Lg gi tl : Nat} {s s₀ : Shared} {x0 x1 h0 h1 : Str} {v0 v1 : Value} {k0 k1 : Int} {rows : List Str} {fin : Option String} {m : Str → Option Value}
/-- the law's frame and its list told while the rows come -/
structure LoopSt (h₀ : Heap) (L Lg tl : Nat) (x0 x1 : Str) (v0 v1 : Value) (k0 k1 : Int) (m : Str → Option Value) (rows : List Str) (s₀ s : Shared) (vs : Array Value) (c : Nat) (m' : Str → Option Value) : Prop where
  ns : s.heap.Ns L m'
  mm : ∀ y, y ≠ Str.ofString "row" → m' y = m y
  told : s.heap.get? tl = some (W.listOf vs c)
  txt : StrsAre vs.toList rows
  keep : ∀ (b : Nat) o, b < Lg → b ≠ 248 → b ≠ L → b ≠ tl → s₀.heap.get? b = some o → s.heap.get? b = some o
  ok : QOk h₀ L Lg x0 x1 v0 v1 k0 k1 s
  bare : AllBare s₀.gens → AllBare s.gens
  os : s.os = s₀.os
  drawn : s.drawn = s₀.drawn
theorem srcPoke {x : Str} {v : Value} {k : Int} {h h' : Heap} (S : Src (trunc h Lg) x v k) (hv : ∀ a : Nat, v = .ref a → a ≠ tl) (hL : ∃ ml, h.Ns L ml) (kp : ∀ b : Nat, b ≠ L → b ≠ tl → h'.get? b = h.get? b) : Src (trunc h' Lg) x v k := by
  cases S with
  | str t => exact .str t
  | list a vs l e r =>
    refine .list a vs ?_ e r
    obtain ⟨o, ho, hc, q⟩ := l
    have := trunc_of ho
    refine ⟨o, (trunc_get this.1).trans ((kp a (fun n => ?_) (hv a rfl)).trans this.2), hc, q⟩
    obtain ⟨ml, o', es, ep, ho', hd, _⟩ := hL
    have t := this.2
    rw [n, ho'] at t; cases t
    obtain ⟨z, hz⟩ := q
    rw [hd] at hz; cases hz
  | bytes b t e => exact .bytes b t e
  | none => exact .none
theorem QOk.poke (C : QCtx w mean mg mb dp un (lawE L) h₀ L Lg x0 x1 h0 h1) (ok : QOk h₀ L Lg x0 x1 v0 v1 k0 k1 s) {s' : Shared} {m' : Str → Option Value} (hn : s'.heap.Ns L m') (ht8 : tl ≠ 248) (htl : tl < Lg) (ht0 : h₀.get? tl = none)
    (hv0 : ∀ a : Nat, v0 = .ref a → a ≠ tl) (hv1 : ∀ a : Nat, v1 = .ref a → a ≠ tl) (kp : ∀ b : Nat, b ≠ L → b ≠ tl → s'.heap.get? b = s.heap.get? b) : QOk h₀ L Lg x0 x1 v0 v1 k0 k1 s' where
  stays := fun b o e => (kp b (fun q => by rw [q, Heap.get?_none_of_le C.hL] at e; cases e) (fun q => by rw [q, ht0] at e; cases e)).trans (ok.stays b o e)
  tab := by
    obtain ⟨ps, a, q⟩ := ok.tab
    refine ⟨ps, a, (kp 248 (fun n => ?_) ht8.symm).trans q⟩
    obtain ⟨ml, o', es, ep, ho', hd, _⟩ := ok.law
    rw [← n, q] at ho'; cases ho'; cases hd
  law := ⟨m', hn⟩
  gen := by
    obtain ⟨go, e⟩ := ok.gen
    have := C.hl
    exact ⟨go, (kp _ (by omega) (by omega)).trans e⟩
  src0 := srcPoke ok.src0 hv0 ok.law kp
  src1 := srcPoke ok.src1 hv1 ok.law kp
theorem take_snoc {n j : Nat} (h : n + 1 ≤ rows.length) (e : j = rows.length - (n + 1)) : rows.take (rows.length - n) = rows.take j ++ [rows.getD (rows.length - 1 - n) (Str.ofString "")] := by
  have e1 : rows.length - n = j + 1 := by omega
  have e2 : rows.length - 1 - n = j := by omega
  have hj : j < rows.length := by omega
  rw [e1, e2, List.take_add_one, List.getElem?_eq_getElem hj]
  simp [List.getD_eq_getElem?_getD, hj]
theorem q_loop (C : QCtx w mean mg mb dp (un + 1) (lawE L) h₀ L Lg x0 x1 h0 h1) {R : Result → Shared → Prop} {px p1 p2 p3 p4 p5 : Pos} (hl : (p2.endLine == p3.line) = true)
    (hsw : swapsWith (.Call (.Attribute (.Name (Str.ofString "told") p1) (Str.ofString "append") p2) [.Name (Str.ofString "row") p4] [] p3) none p5.line (lawE L) = pure false)
    (htold : m (Str.ofString "told") = some (.ref tl)) (htl : tl < Lg) (htL : tl ≠ L) (ht0 : h₀.get? tl = none) (hv0 : ∀ a : Nat, v0 = .ref a → a ≠ tl) (hv1 : ∀ a : Nat, v1 = .ref a → a ≠ tl) (hlen : rows.length ≤ 100)
    (hns : ∀ cls, fin = some cls → isSubtype (.type cls) (.type "StopIteration") = pure false)
    (st : LoopSt h₀ L Lg tl x0 x1 v0 v1 k0 k1 m [] s₀ s₀ #[] 0 m) (gen : QGen w dp un gd (lawE L) h₀ L Lg gi x0 x1 v0 v1 k0 k1 rows fin rows.length s₀)
    (hR : fin = none → ∀ s' vs c m', LoopSt h₀ L Lg tl x0 x1 v0 v1 k0 k1 m rows s₀ s' vs c m' → R (.ok .next) s')
    (hE : ∀ cls, fin = some cls → ∀ e s₁ s' vs c m' B a0, LoopSt h₀ L Lg tl x0 x1 v0 v1 k0 k1 m rows s₀ s₁ vs c m' → (AllBare s₁.gens → AllBare s'.gens) → s'.os = s₁.os → s'.drawn = s₁.drawn →
      (∀ (b : Nat) o, b < Lg → b ≠ 248 → b ≠ L → s₁.heap.get? b = some o → B.get? b = some o) → HasTab B → Heap.HeldW B [lawE L] e (.type cls) a0 L s'.heap → s'.heap.Ns L m' → R (.error (.ref e)) s') :
    codeAny (qM w) (arA dp un gd [lawE L]) (.forLoop (.Name (Str.ofString "row") px) (.ref (Lg + 1)) [.Expr (.Call (.Attribute (.Name (Str.ofString "told") p1) (Str.ofString "append") p2) [.Name (Str.ofString "row") p4] [] p3) p5] [] (lawE L)) R s₀ := by
  have ht8 : ∀ {s : Shared} {vs c}, HasTab s.heap → s.heap.get? tl = some (W.listOf vs c) → tl ≠ 248 := fun ht e q => by
    obtain ⟨ps, _, t⟩ := ht
    rw [q, t] at e; cases e
  refine codeAny_forLoop (fun n s => n ≤ rows.length ∧ (∃ vs c m', LoopSt h₀ L Lg tl x0 x1 v0 v1 k0 k1 m (rows.take (rows.length - n)) s₀ s vs c m') ∧ QGen w dp un gd (lawE L) h₀ L Lg gi x0 x1 v0 v1 k0 k1 rows fin n s) ?_ rows.length
    ⟨Nat.le_refl _, ⟨#[], 0, m, by rw [Nat.sub_self]; exact st⟩, gen⟩
  rintro n s ⟨hn, ⟨vs, c, m', S⟩, G⟩
  have hLg := C.hl
  have t8 := ht8 S.ok.tab S.told
  have L8 : L ≠ 248 := fun q => by
    obtain ⟨ps, _, t⟩ := S.ok.tab
    obtain ⟨o, es, ep, ho, hd, _⟩ := S.ns
    rw [q, t] at ho; cases ho; cases hd
  cases n with
  | zero =>
    rw [Nat.sub_zero, List.take_length] at S
    refine q_done C S.ok G hns (fun hf s' stp tb kp => ?_) (fun cls hf e s' stp fl => ?_)
    · exact wpAny_execs_nil (hR hf s' vs c m' ⟨S.ns.at' fun o q => kp L o (by omega) L8 (by omega) q, S.mm, kp tl _ (by omega) t8 (by omega) S.told, S.txt, fun b o b1 b2 b3 b4 q => kp b o (by omega) b2 (by omega) (S.keep b o b1 b2 b3 b4 q), QOk.step C S.ok tb kp, fun z => stp.bare (S.bare z), stp.os.trans S.os, stp.drawn.trans S.drawn⟩)
    · obtain ⟨B, a0, hk, htB, hfl⟩ := fl.flies
      have gb : ∀ (b : Nat) o, b < Lg → b ≠ 248 → s.heap.get? b = some o → (gBase Lg s).get? b = some o := fun b o b1 b2 q => hideAll_get _ (by rw [trunc_get (by omega)]; exact q) fun hm => by
        rcases List.mem_cons.mp hm with q1 | q1
        · exact b2 q1
        · have : @Eq Nat b Lg := List.mem_singleton.mp q1
          omega
      have ngb : (gBase Lg s).Ns L m' := S.ns.at' fun o q => gb L o hLg L8 q
      show wpAny _ _ (noteFrame (.ref e) (lawE L)) _ _ _
      refine wpAny_looks_onW (outer := []) rfl rfl hfl fun h' held up => ?_
      exact hE cls hf e s _ vs c m' B a0 S stp.bare stp.os stp.drawn (fun b o b1 b2 b3 q => hk b o b2 (fun hm => b3 (by
        have : b ∈ [L] := hm
        exact List.mem_singleton.mp this)) (gb b o b1 b2 q)) htB held (up.ns (fl.up.ns ngb))
  | succ n =>
    have hj := take_snoc (rows := rows) hn rfl
    refine q_item C S.ok G fun t s1 stp tb kp G1 => ?_
    have ns1 : s1.heap.Ns L m' := S.ns.at' fun o q => kp L o (by omega) L8 (by omega) q
    have td1 := kp tl _ (by omega) t8 (by omega) S.told
    have ok1 := QOk.step C S.ok tb kp
    refine wpAny_assign_Name (wpAny_storeName_local rfl ns1 (fun h2 hn2 hs2 => ?_) rfl)
    have td2 : h2.get? tl = some (W.listOf vs c) := (hs2.2 tl htL).trans td1
    refine wpAny_execs_cons (told_append (v := .str (rows.getD (rows.length - 1 - n) (Str.ofString "")) t) hn2 ?_ td2 hl rfl (fun Q' hQ' => ldC rfl rfl hn2 ?_ (hQ' _)) ?_ hsw fun h3 tk n' td3 hs3 => wpAny_execs_nil ?_)
    · show (if Str.ofString "told" = Str.ofString "row" then _ else m' (Str.ofString "told")) = _
      rw [if_neg (by decide), S.mm _ (by decide)]; exact htold
    · rfl
    · have := S.txt.length_eq
      rw [Array.length_toList, List.length_take] at this
      omega
    · have e3 : ∀ b : Nat, b ≠ L → b ≠ tl → h3.get? b = s1.heap.get? b := fun b b1 b2 => (hs3.2 b b2).trans (hs2.2 b b1)
      have ns3 := hn2.at' (h' := h3) fun o q => (hs3.2 L htL.symm).trans q
      refine ⟨n, Nat.lt_succ_self n, by omega, ⟨vs.push _, n', _, ⟨ns3, fun y hy => ?_, td3, ?_, fun b o b1 b2 b3 b4 q => (e3 b b3 b4).trans (kp b o (by omega) b2 (by omega) (S.keep b o b1 b2 b3 b4 q)), QOk.poke C ok1 ns3 t8 htl ht0 hv0 hv1 e3, fun z => stp.bare (S.bare z), stp.os.trans S.os, stp.drawn.trans S.drawn⟩⟩, ?_⟩
      · show (if y = Str.ofString "row" then _ else m' y) = _
        rw [if_neg hy]; exact S.mm y hy
      · rw [hj, Array.toList_push]; exact S.txt.snoc
      · obtain ⟨hg, gs, hgs, hgo⟩ := G1
        refine ⟨isGen_of hg fun o q => (e3 (Lg + 1) (by omega) (by omega)).trans q, gs, hgs, fun s'' q ok'' => hgo s'' (q.trans (e3 Lg (by omega) (by omega))) ok''⟩
end
end Mine

end
section -- Lw5
open PySem PySem.W PyProof.Rows PySem.Calls
set_option Elab.async false
set_option maxRecDepth 100000
namespace Mine
theorem held_back {M : Model} {A : Around} {E : Value → Shared → Prop} {s : Shared} {base : Heap} {l : List Env} {env : Env} {e L : Addr} {cls a0 : Value} (hf : env.frame = some L) (H : Heap.HeldW base l e cls a0 L s.heap)
    (h : ∀ h', Heap.HeldW base l e cls a0 L h' → s.heap.UpToSlots h' → E (.ref e) { s with heap := h' }) : cameBackBy M A env E (.ref e) s := by
  obtain ⟨f1, f2, f3, oe, vs, T, oT, ts, he, hcls, hd, h1, hnT, hTe, hT, hdT, h3⟩ := H
  have hsz3 : 3 < ts.size := (Array.getElem?_eq_some_iff.mp h3).1
  have other : ∀ b, b ≠ T → (s.heap.update T (Obj.mapFields (·.setIfInBounds 3 ((some L : Option Addr).elim Value.none fun f => rawInt f)))).get? b = s.heap.get? b :=
    fun b hb => Heap.get?_update_other _ _ (Ne.symm hb)
  have noRecord : ∀ b o, s.heap.get? b = some o → (∀ vs, o.data ≠ .fields vs) → b ≠ T := fun b o hb hnf q => by
    rw [q, hT] at hb; injection hb with hb; subst hb; exact hnf ts hdT
  unfold cameBackBy
  refine wpAny_bind (wpAny_field he hd h1 ?_)
  rw [if_neg (show ¬ ((Value.ref T == Value.none) = true) from by simp)]
  rw [hf]
  show wpAny M A (setFlight (.ref e) (some L)) _ _ _
  unfold setFlight
  refine wpAny_bind (wpAny_field he hd h1 ?_)
  rw [if_pos (show (Value.ref T != Value.none) = true from by simp)]
  refine wpAny_setField hT hdT hsz3 (h _ ⟨fun b o hbo => (other b fun q => by rw [q, hnT] at hbo; cases hbo).trans (f1 b o hbo), f2,
    f3.of_keeps fun b o hb hnf => ⟨o, (other b (noRecord b o hb hnf)).trans hb, rfl⟩, ?_⟩ fun b o hb hnf => ⟨o.slots, (other b (noRecord b o hb hnf)).trans hb⟩)
  exact ⟨oe, vs, T, _, _, (other e (Ne.symm hTe)).trans he, hcls, hd, h1, hnT, hTe, Heap.get?_update_self _ hT (Obj.isFreed_of_fields (Obj.data_mapFields hdT _)), Obj.data_mapFields hdT _, by simp [hsz3]⟩
theorem isExc_AE : isSubtype (.type "AttributeError") (.type "BaseException") = pure true := by rw [isSubtype_type]; kernel_rfl
theorem notTuple_AE : isSubtype (.type ((Manifest.find? "AttributeError").elim "type" fun x => x.metatype)) (.type "tuple") = pure false := by
  rw [show ((Manifest.find? "AttributeError").elim "type" fun x => x.metatype) = "type" from by kernel_rfl, isSubtype_type]; kernel_rfl
theorem sub_TT : isSubtype (.type "TypeError") (.type "TypeError") = pure true := by rw [isSubtype_type]; kernel_rfl
theorem sub_AT : isSubtype (.type "AttributeError") (.type "TypeError") = pure false := by rw [isSubtype_type]; kernel_rfl
/-- behind the try -/
structure TEnd (h₀ : Heap) (L Lg tl : Nat) (m : Str → Option Value) (rows : List Str) (s₀ s : Shared) (vs : Array Value) (c : Nat) (m' : Str → Option Value) : Prop where
  ns : s.heap.Ns L m'
  mm : ∀ y, y ≠ Str.ofString "row" → m' y = m y
  told : s.heap.get? tl = some (W.listOf vs c)
  txt : StrsAre vs.toList rows
  keep : ∀ (b : Nat) o, b < Lg → b ≠ 248 → b ≠ L → b ≠ tl → s₀.heap.get? b = some o → s.heap.get? b = some o
  stays : h₀.StaysIn s.heap
  tab : HasTab s.heap
  bare : AllBare s₀.gens → AllBare s.gens
  os : s.os = s₀.os
  drawn : s.drawn = s₀.drawn
section
variable {w : World} {mean : ExcName → Option Value} {mg mb : Str → Option Value} {dp un : Nat} {gd : Option (List Code)} {h₀ : Heap} {L Lg gi tl : Nat} {s s₀ s₁ : Shared} {x0 x1 h0 h1 : Str} {v0 v1 : Value} {k0 k1 : Int} {rows : List Str} {fin : Option String} {m m' : Str → Option Value} {vs : Array Value} {c : Nat} {B : Heap} {a0 : Value} {e : Addr} {cls : String}
abbrev hSuite (nm : String) (p1 p2 p3 p4 p5 : Pos) : List Stmt := [.Expr (.Call (.Attribute (.Name (Str.ofString "told") p1) (Str.ofString "append") p2) [.Constant (.str (Str.ofString nm)) 0 p4] [] p3) p5]
/-- a suite of the handlers -/
theorem q_suite {A : Around} {Q : Flow → Shared → Prop} {E : Value → Shared → Prop} {nm : String} {p1 p2 p3 p4 p5 : Pos} (hl : (p2.endLine == p3.line) = true)
    (hsw : swapsWith (.Call (.Attribute (.Name (Str.ofString "told") p1) (Str.ofString "append") p2) [.Constant (.str (Str.ofString nm)) 0 p4] [] p3) none p5.line (lawE L) = pure false)
    (htold : m (Str.ofString "told") = some (.ref tl)) (htL : tl ≠ L) (ht0 : h₀.get? tl = none) (hlen : rows.length ≤ 100) (T : TEnd h₀ L Lg tl m rows s₀ s vs c m')
    (hQ : ∀ s' vs' c', TEnd h₀ L Lg tl m (rows ++ [Str.ofString nm]) s₀ s' vs' c' m' → Q .next s') : wpAny (qM w) A (execs (hSuite nm p1 p2 p3 p4 p5) (lawE L)) Q E s := by
  refine wpAny_execs_cons (told_append (v := .str (Str.ofString nm) s.toks) T.ns ((T.mm _ (by decide)).trans htold) T.told hl rfl (fun Q' hQ' => Calls.Constant_str (hQ' _)) ?_ hsw fun h3 tk n' td3 hs3 => wpAny_execs_nil ?_)
  · have := T.txt.length_eq
    rw [Array.length_toList] at this
    omega
  · have t8 : tl ≠ 248 := fun q => by
      obtain ⟨ps, _, t⟩ := T.tab
      have z := T.told
      rw [q, t] at z; cases z
    refine hQ _ _ _ ⟨T.ns.at' (h' := h3) fun o q => (hs3.2 L htL.symm).trans q, T.mm, td3, by rw [Array.toList_push]; exact T.txt.snoc, fun b o b1 b2 b3 b4 q => (hs3.2 b b4).trans (T.keep b o b1 b2 b3 b4 q),
      fun b o q => (hs3.2 b fun z => by rw [z, ht0] at q; cases q).trans (T.stays b o q), ?_, T.bare, T.os, T.drawn⟩
    obtain ⟨ps, a, q⟩ := T.tab
    exact ⟨ps, a, (hs3.2 248 t8.symm).trans q⟩
theorem free_T {mg mb : Str → Option Value} (T : Top (q pw0) loose0 mean mg mb h₀) : mg (Str.ofString "TypeError") = none := T.free _ (by decide +kernel) (by decide +kernel) (by decide +kernel) (by decide +kernel) (by decide +kernel)
theorem free_A {mg mb : Str → Option Value} (T : Top (q pw0) loose0 mean mg mb h₀) : mg (Str.ofString "AttributeError") = none := T.free _ (by decide +kernel) (by decide +kernel) (by decide +kernel) (by decide +kernel) (by decide +kernel)
theorem q_catch (C : QCtx w mean mg mb dp (un + 1) (lawE L) h₀ L Lg x0 x1 h0 h1) {Q : Flow → Shared → Prop} {E : Value → Shared → Prop} {s' : Shared} {p1 p2 p3 p4 p5 r1 r2 r3 r4 r5 n1 n2 q1 q2 : Pos} (hl : (p2.endLine == p3.line) = true) (hl2 : (r2.endLine == r3.line) = true)
    (hsw : swapsWith (.Call (.Attribute (.Name (Str.ofString "told") p1) (Str.ofString "append") p2) [.Constant (.str (Str.ofString "TypeError")) 0 p4] [] p3) none p5.line (lawE L) = pure false)
    (hsw2 : swapsWith (.Call (.Attribute (.Name (Str.ofString "told") r1) (Str.ofString "append") r2) [.Constant (.str (Str.ofString "AttributeError")) 0 r4] [] r3) none r5.line (lawE L) = pure false)
    (htold : m (Str.ofString "told") = some (.ref tl)) (htl : tl < Lg) (htL : tl ≠ L) (ht0 : h₀.get? tl = none) (hlen : rows.length ≤ 100) (hcls : cls = "TypeError" ∨ cls = "AttributeError")
    (S : LoopSt h₀ L Lg tl x0 x1 v0 v1 k0 k1 m rows s₀ s₁ vs c m') (hbare : AllBare s₁.gens → AllBare s'.gens) (hos : s'.os = s₁.os) (hdr : s'.drawn = s₁.drawn)
    (kB : ∀ (b : Nat) o, b < Lg → b ≠ 248 → b ≠ L → s₁.heap.get? b = some o → B.get? b = some o) (htB : HasTab B) (held : Heap.HeldW B [lawE L] e (.type cls) a0 L s'.heap) (hns : s'.heap.Ns L m')
    (hQ : ∀ s'' vs' c', TEnd h₀ L Lg tl m (rows ++ [Str.ofString cls]) s₀ s'' vs' c' m' → Q .next s'') :
    cameBackBy (qM w) (arA dp un gd [lawE L]) (lawE L) (fun e s₁ => wpAny (qM w) (arA dp un gd [lawE L]) (noteFrame e (lawE L)) (fun _ s₂ => wpAny (qM w) (arA dp un gd [lawE L]) (setFlight e none) (fun _ s₃ => wpAny (qM w) (arA dp un gd [lawE L]) (handleBy e (lawE L)
      [.ExceptHandler (some (.Name (Str.ofString "TypeError") n1)) none (hSuite "TypeError" p1 p2 p3 p4 p5) q1, .ExceptHandler (some (.Name (Str.ofString "AttributeError") n2)) none (hSuite "AttributeError" r1 r2 r3 r4 r5) q2]) Q E s₃) E s₂) E s₁) (.ref e) s' := by
  refine held_back rfl held fun h1 held1 up1 => ?_
  refine wpAny_noteFrame_againW (L := L) rfl held1.2.2.2 ?_
  refine wpAny_landsW held1 fun h2 fl2 up2 => ?_
  have hLg := C.hl
  have hB : ∀ b o, h₀.get? b = some o → B.get? b = some o := fun b o q => by
    have l : @LT.lt Nat _ b L := Nat.lt_of_lt_of_le (Heap.lt_size q) C.hL
    exact kB b o (by omega) (fun z => by rw [z, C.h8] at q; cases q) (nne (by omega)) (S.ok.stays b o q)
  have F2 : Fr h₀ L h2 m' := ⟨(up1.trans up2).ns hns, fun b o q => fl2.1 b o (hB b o q), C.hL⟩
  have t8 : tl ≠ 248 := fun q => by
    obtain ⟨ps, _, t⟩ := S.ok.tab
    have z := S.told
    rw [q, t] at z; cases z
  have te : ∀ (h3 : Heap), B.StaysIn h3 → h2.UpToSlots h3 → TEnd h₀ L Lg tl m rows s₀ { s' with heap := h3 } vs c m' := fun h3 st3 up3 =>
    ⟨up3.ns F2.ns, S.mm, st3 _ _ (kB tl _ htl t8 htL S.told), S.txt, fun b o b1 b2 b3 b4 q => st3 _ _ (kB b o b1 b2 b3 (S.keep b o b1 b2 b3 b4 q)), fun b o q => st3 _ _ (hB b o q), htB.keeps st3, fun z => hbare (S.bare z), hos.trans S.os, hdr.trans S.drawn⟩
  obtain ⟨ob, hob, hobc⟩ := fl2.there
  rcases hcls with rfl | rfl
  · refine wpAny_handleBy_builtin (X := "TypeError") (T := "TypeError") (b := true) PySem.F.isExc_TypeError PySem.F.notTuple_TypeError sub_TT (ld_builtin_at (s := { s' with heap := h2 }) F2 C.T.g (free_T C.T) C.T.b ((C.T.builtins _ (by decide +kernel)).trans PyProof.Rows.Boot.«TypeError») ⟨rfl, ⟨ob, hob, hobc⟩, ?_⟩ rfl rfl (by decide))
    refine lands_againW (s := { s' with heap := h2 }) fl2 fun h3 fl3 up3 => ?_
    exact q_suite hl hsw htold htL ht0 hlen (te h3 fl3.1 up3) hQ
  · refine wpAny_handleBy_builtin (X := "AttributeError") (T := "TypeError") (b := false) PySem.F.isExc_TypeError PySem.F.notTuple_TypeError sub_AT (ld_builtin_at (s := { s' with heap := h2 }) F2 C.T.g (free_T C.T) C.T.b ((C.T.builtins _ (by decide +kernel)).trans PyProof.Rows.Boot.«TypeError») ⟨rfl, ⟨ob, hob, hobc⟩, ?_⟩ rfl rfl (by decide))
    refine wpAny_handleBy_builtin (X := "AttributeError") (T := "AttributeError") (b := true) isExc_AE notTuple_AE sub_AttributeError (ld_builtin_at (s := { s' with heap := h2 }) F2 C.T.g (free_A C.T) C.T.b ((C.T.builtins _ (by decide +kernel)).trans PyProof.Rows.Boot.«AttributeError») ⟨rfl, ⟨ob, hob, hobc⟩, ?_⟩ rfl rfl (by decide))
    refine lands_againW (s := { s' with heap := h2 }) fl2 fun h3 fl3 up3 => ?_
    exact q_suite hl2 hsw2 htold htL ht0 hlen (te h3 fl3.1 up3) hQ
end
end Mine

end
section -- Lw6
open PySem PySem.W PyProof.Rows PySem.Calls
set_option Elab.async false
set_option maxRecDepth 100000
set_option pp.maxSteps 4000
namespace Mine
def forB : Option Stmt → List Stmt
  | some (.For _ _ b _ _) => b
  | _ => []
def tryB : Option Stmt → List Stmt
  | some (.Try b _ _ _ _) => b
  | _ => []
def forI : Option Stmt → Expr
  | some (.For _ i _ _ _) => i
  | _ => .Name "" default
noncomputable def innerB : List Stmt := forB (forB (fb_11 pw0)[3]?)[0]?
noncomputable def tryI : Expr := forI (tryB innerB[3]?)[0]?
set_option maxHeartbeats 8000000 in
theorem try_iter (w : World) (mean : ExcName → Option Value) (mg mb : Str → Option Value) (h₀ : Heap) (L tl at_ : Addr) (s : Shared) (Q : Value → Shared → Prop) (E : Value → Shared → Prop) (v0 v1 : Value) (g0 g1 : Str) (u2 u3 : Tok) (n2 : Nat) (rest : List (Addr × Obj)) (m : Str → Option Value)
    (B : Below callerA h₀ [] h₀) (X : (K w.params).In h₀) (T : Top (q pw0) loose0 mean mg mb h₀)
    (F : Fr h₀ L s.heap (fun y => if y = Str.ofString "told" then some (.ref tl) else if y = Str.ofString "new" then some v1 else if y = Str.ofString "old" then some v0 else if y = Str.ofString "tags" then some (.ref at_) else m y))
    (N : News h₀ L s.heap ((at_, W.listOf #[.str g0 u2, .str g1 u3] n2) :: rest))
    (hQ : ∀ h' tk sv, Fr h₀ L h' (fun y => if y = Str.ofString "told" then some (.ref tl) else if y = Str.ofString "new" then some v1 else if y = Str.ofString "old" then some v0 else if y = Str.ofString "tags" then some (.ref at_) else m y) → News h₀ L h' ((at_, W.listOf #[.str g0 u2, .str g1 u3] n2) :: rest) →
      wpAny (model PySem.Challenge.rw_dm0062_06.row.prog w) (callerA.deeper (lawE L)) (call (.ref 310) [sv, v0, v1, .str g0 u2, .str g1 u3]) Q E { s with heap := h', toks := tk }) :
    wpAny (model PySem.Challenge.rw_dm0062_06.row.prog w) (callerA.deeper (lawE L)) (eval tryI (lawE L)) Q E s := by
  revert X
  k_fill
  intro X
  show wpAny _ _ (eval (.Call _ _ _ _) _) _ _ _
  repeat' (first | (fail_if_success (with_reducible show wpAny _ _ (call (Value.ref 310) _) _ _ _)); first | (k_unfold; (try dsimp only)) | walk1 | (dsimp only; walk1) | (leave1; walk_say "STEP leave1"; try dsimp only) | fail "no step")
  refine hQ _ _ _ (by assumption) fun q hq => ?_
  (rename News h₀ L _ _ => gN)
  exact gN q (.tail _ (.tail _ hq))
noncomputable def toldL (x0 x1 g0 g1 : Str) (k0 k1 : Int) : List Str := rows0 x0 x1 g0 g1 k0 k1 ++ (match fin0 x0 x1 g0 g1 k0 k1 with | none => [] | some c => [Str.ofString c])
theorem fin0_cls {x0 x1 g0 g1 : Str} {k0 k1 : Int} {cls : String} (h : fin0 x0 x1 g0 g1 k0 k1 = some cls) : cls = "TypeError" ∨ cls = "AttributeError" := by
  have er : ∀ {x y : Str} {k : Int}, errOf x y k = some cls → cls = "TypeError" ∨ cls = "AttributeError" := fun h => by
    unfold errOf at h
    split at h
    · cases h; exact .inr rfl
    · split at h
      · cases h; exact .inl rfl
      · cases h
  unfold fin0 at h
  split at h
  · rename_i c hc; cases h; exact er hc
  · split at h
    · rename_i c hc; cases h; exact er hc
    · unfold fin1 fin3 at h
      split at h
      · cases h; exact .inl rfl
      · split at h
        · cases h; exact .inl rfl
        · cases h
theorem noStop {cls : String} (h : cls = "TypeError" ∨ cls = "AttributeError") : isSubtype (.type cls) (.type "StopIteration") = pure false := by
  rcases h with rfl | rfl <;> (rw [isSubtype_type]; kernel_rfl)
theorem tail_len (h : Str) : (tail1 h).length ≤ 1 := by unfold tail1; split <;> simp
theorem rows0_len (x0 x1 g0 g1 : Str) (k0 k1 : Int) : (rows0 x0 x1 g0 g1 k0 k1).length ≤ 100 := by
  unfold rows0
  split
  · decide
  · split
    · decide
    · unfold rows1
      split
      · decide
      · unfold rows2 rows3
        have a := tail_len (tagF x0 g0)
        have b := tail_len (tagF x1 g1)
        split
        · simp only [List.length_cons, List.length_append, List.length_nil]; omega
        · simp only [List.length_cons, List.length_append]; omega
theorem srcTr {x : Str} {v : Value} {k : Int} {h h' : Heap} (S : Src h x v k) (kp : ∀ b o, h.get? b = some o → h'.get? b = some o) : Src (trunc h' h.objs.size) x v k := by
  cases S with
  | str t => exact .str t
  | list a vs l e r =>
    refine .list a vs ?_ e r
    obtain ⟨o, ho, hc, q⟩ := l
    exact ⟨o, (trunc_get (Heap.lt_size ho)).trans (kp _ _ ho), hc, q⟩
  | bytes b t e => exact .bytes b t e
  | none => exact .none
end Mine

end
section -- Lw7
open PySem PySem.W PyProof.Rows PySem.Calls
set_option Elab.async false
set_option maxRecDepth 100000
set_option pp.maxSteps 4000
namespace Mine
noncomputable def tryS : Stmt := innerB.getD 3 (.Pass default)
theorem tag_len {x y : Str} (h : x.length ≤ 100) : (tagF x y).length ≤ 100 := by
  refine Nat.le_trans (len_rstrip _) ?_
  rw [lay_len]; unfold minL; omega
abbrev tMap (tl at_ : Addr) (v0 v1 : Value) (m : Str → Option Value) : Str → Option Value := fun y => if y = Str.ofString "told" then some (.ref tl) else if y = Str.ofString "new" then some v1 else if y = Str.ofString "old" then some v0 else if y = Str.ofString "tags" then some (.ref at_) else m y
set_option maxHeartbeats 4000000 in
theorem try_all {w : World} {mean : ExcName → Option Value} {mg mb : Str → Option Value} {h₀ : Heap} {L tl at_ : Nat} {s : Shared} {Q : Flow → Shared → Prop} {E : Value → Shared → Prop} {x0 x1 g0 g1 : Str} {v0 v1 : Value} {k0 k1 : Int} {u2 u3 : Tok} {n2 : Nat} {ps : Array Value} {mid : List (Addr × Obj)} {m : Str → Option Value}
    (B : Below callerA h₀ [] h₀) (X : (K w.params).In h₀) (T : Top (q pw0) loose0 mean mg mb h₀) (h8 : h₀.get? 248 = none)
    (F : Fr h₀ L s.heap (tMap tl at_ v0 v1 m)) (N : News h₀ L s.heap ((at_, W.listOf #[.str g0 u2, .str g1 u3] n2) :: (tl, W.listOf #[] 0) :: (248, tabObj ps) :: mid)) (hps : TriplesOk ps.toList)
    (hmid : ∀ q ∈ mid, q.1 ≠ tl ∧ q.1 ≠ 248) (S0 : ∀ h', News h₀ L h' mid → Src h' x0 v0 k0) (S1 : ∀ h', News h₀ L h' mid → Src h' x1 v1 k1) (hv0 : ∀ a : Nat, v0 = .ref a → a ≠ tl) (hv1 : ∀ a : Nat, v1 = .ref a → a ≠ tl)
    (a0 : Alpha x0) (a1 : Alpha x1) (y0 : TagA g0) (y1 : TagA g1) (l0 : x0.length ≤ 100) (l1 : x1.length ≤ 100)
    (hQ : ∀ s' vs c ps' m', Fr h₀ L s'.heap m' → (∀ y, y ≠ Str.ofString "row" → m' y = tMap tl at_ v0 v1 m y) → News h₀ L s'.heap ((at_, W.listOf #[.str g0 u2, .str g1 u3] n2) :: (tl, W.listOf vs c) :: (248, tabObj ps') :: mid) → TriplesOk ps'.toList →
      StrsAre vs.toList (toldL x0 x1 g0 g1 k0 k1) → (AllBare s.gens → AllBare s'.gens) → s'.os = s.os → s'.drawn = s.drawn → Q .next s') :
    wpAny (qM w) (callerA.deeper (lawE L)) (exec tryS (lawE L)) Q E s := by
  show wpAny _ _ (exec (.Try [.For (.Name (Str.ofString "row") _) tryI [.Expr (.Call (.Attribute (.Name (Str.ofString "told") _) (Str.ofString "append") _) [.Name (Str.ofString "row") _] [] _) _] [] _]
    [.ExceptHandler (some (.Name (Str.ofString "TypeError") _)) none (hSuite "TypeError" _ _ _ _ _) _, .ExceptHandler (some (.Name (Str.ofString "AttributeError") _)) none (hSuite "AttributeError" _ _ _ _ _) _] [] [] _) _) _ _ _
  refine wpAny_Try_except (wpAny_execs_cons (wpAny_For (try_iter w mean mg mb h₀ L tl at_ s _ _ v0 v1 g0 g1 u2 u3 n2 _ m B X T F N fun h' tk sv F' N' => ?_) (fun _ => rfl)))
  have Xh := X.keeps F'.keep
  have Th := T.keeps F'.keep
  refine gen_call (dp := 1 + claimMargin + 1) (un := 7) (gd := some []) (lawE := lawE L) Xh Th.nolimit (by decide) fun h1 tk1 nm qn hn1 kp1 hsz => ?_
  -- the generator stands
  generalize hh5 : (h1.push { cls := .type "generator", data := .fields #[.int ({ s with heap := h', toks := tk } : Shared).gens.size 0, nm, qn] }) = h5
  have k5 : ∀ b o, h'.get? b = some o → h5.get? b = some o := fun b o e => by rw [← hh5]; exact Heap.get?_push_of_some _ (kp1 b o e)
  have hgo : h5.get? (h'.objs.size + 1) = some { cls := .type "generator", data := .fields #[.int s.gens.size 0, nm, qn] } := by
    rw [← hh5, ← hsz]; exact Heap.get?_push_size _ rfl
  have hn5 : h5.Ns h'.objs.size (qBinds sv v0 v1 g0 g1 u2 u3) := by rw [← hh5]; exact hn1.push _
  have Nm : News h₀ L h' mid := fun q hq => N' q (.tail _ (.tail _ (.tail _ hq)))
  have n248 := N' (248, tabObj ps) (.tail _ (.tail _ (.head _)))
  have ntl := N' (tl, W.listOf #[] 0) (.tail _ (.head _))
  have nat := N' (at_, W.listOf #[.str g0 u2, .str g1 u3] n2) (.head _)
  have htl : @LT.lt Nat _ tl h'.objs.size := Heap.lt_size ntl.1
  have t8 : tl ≠ 248 := fun q => by have z := ntl.1; rw [q, n248.1] at z; cases z
  have atl : at_ ≠ tl := fun q => by have z := nat.1; rw [q, ntl.1] at z; cases z
  have at8 : at_ ≠ 248 := fun q => by have z := nat.1; rw [q, n248.1] at z; cases z
  have C : QCtx w mean mg mb (1 + claimMargin + 1) (7 + 1) (lawE L) h₀ L h'.objs.size x0 x1 (tagF x0 g0) (tagF x1 g1) :=
    ⟨X, T, h8, F'.above, F'.ns.lt, rfl, (show (fs_11 pw0).kind ≠ .module by decide), by decide, by decide, l0, l1, tag_len l0, tag_len l1⟩
  have ok5 : QOk h₀ L h'.objs.size x0 x1 v0 v1 k0 k1 { s with gens := s.gens.push (.fresh (.func (fb_7_7 pw0) (qEnv h'.objs.size))), toks := tk1, heap := h5 } :=
    ⟨fun b o e => k5 b o (F'.keep b o e), ⟨ps, hps, k5 _ _ n248.1⟩, ⟨_, F'.ns.keeps k5⟩, ⟨_, hgo⟩, srcTr (S0 h' Nm) k5, srcTr (S1 h' Nm) k5⟩
  have fin : ∀ {rows s'' vs c m'}, rows = toldL x0 x1 g0 g1 k0 k1 → TEnd h₀ L h'.objs.size tl (tMap tl at_ v0 v1 m) rows { s with gens := s.gens.push (.fresh (.func (fb_7_7 pw0) (qEnv h'.objs.size))), toks := tk1, heap := h5 } s'' vs c m' → Q .next s'' := fun {rows s'' vs c m'} er te => by
    subst er
    obtain ⟨ps', hps', hP'⟩ := te.tab
    refine hQ s'' vs c ps' m' ⟨te.ns, te.stays, F'.above⟩ te.mm (fun q hq => ?_) hps' te.txt (fun z => te.bare (z.push rfl)) te.os te.drawn
    rcases List.mem_cons.mp hq with rfl | hq
    · exact ⟨te.keep _ _ (Heap.lt_size nat.1) at8 nat.2.1 atl (k5 _ _ nat.1), nat.2⟩
    · rcases List.mem_cons.mp hq with rfl | hq
      · exact ⟨te.told, ntl.2⟩
      · rcases List.mem_cons.mp hq with rfl | hq
        · exact ⟨hP', n248.2⟩
        · exact ⟨te.keep _ _ (Heap.lt_size (Nm q hq).1) (hmid q hq).2 (Nm q hq).2.1 (hmid q hq).1 (k5 _ _ (Nm q hq).1), (Nm q hq).2⟩
  refine wpAny_pyIter_gen (g := s.gens.size) ⟨_, nm, qn, hgo, rfl, rfl, rfl⟩ ?_
  refine q_loop (dp := 1 + claimMargin + 1) (un := 7) (gd := some []) (rows := rows0 x0 x1 g0 g1 k0 k1) (fin := fin0 x0 x1 g0 g1 k0 k1) (m := tMap tl at_ v0 v1 m) (gi := s.gens.size) C rfl rfl rfl htl ntl.2.1 ntl.2.2 hv0 hv1 (rows0_len ..) (fun cls h => noStop (fin0_cls h))
    ⟨F'.ns.keeps k5, fun _ _ => rfl, k5 _ _ ntl.1, .nil, fun _ _ _ _ _ _ q => q, ok5, fun z => z, rfl, rfl⟩ ⟨⟨_, nm, qn, hgo, rfl, rfl, rfl⟩, _, Array.getElem?_push_size .., fun s'' e ok'' => ⟨rfl, ?_⟩⟩ (fun hf s' vs c m' S => ?_) (fun cls hf e s₁ s' vs c m' B' a0' S hb ho hdr kB htB held hns => ?_)
  · exact q_s0 C ok'' (hn5.at' fun o q => e.trans q) a0 a1 y0 y1
  · refine wpAny_execs_nil (wpAny_execs_nil (fin ?_ ⟨S.ns, S.mm, S.told, S.txt, S.keep, S.ok.stays, S.ok.tab, S.bare, S.os, S.drawn⟩))
    unfold toldL; rw [hf]; exact (List.append_nil _).symm
  · refine q_catch (dp := 1 + claimMargin + 1) (un := 7) (gd := some []) C rfl rfl rfl rfl rfl htl ntl.2.1 ntl.2.2 (rows0_len ..) (fin0_cls hf) S hb ho hdr kB htB held hns fun s'' vs' c' te => fin ?_ te
    unfold toldL; rw [hf]
end Mine

end
section -- Pl
open PySem PySem.W PyProof.Rows PySem.Calls
set_option Elab.async false
set_option maxRecDepth 100000
namespace Mine
def six : List Nat := [9, 32, 10, 94, 45, 43]
theorem takeWhile_congr' {p q : Nat → Bool} : ∀ {l : List Nat}, (∀ c ∈ l, p c = q c) → l.takeWhile p = l.takeWhile q
  | [], _ => rfl
  | a :: l, h => by
    rw [List.takeWhile_cons, List.takeWhile_cons, h a (.head _), takeWhile_congr' fun c hc => h c (.tail _ hc)]
theorem rstrip_eq {z : Str} (h : ∀ c ∈ z.cps.toList, c ∈ six) : Txt.rstrip z = Txt.rstripChars z (Str.ofString "\t \n") := by
  have hp : ∀ c ∈ z.cps.toList, Unicode.isSpace c = (Str.ofString "\t \n").cps.contains c := fun c hc => by
    have := h c hc
    simp [six] at this
    rcases this with rfl | rfl | rfl | rfl | rfl | rfl <;> decide +kernel
  have e : stripHi Unicode.isSpace true z 0 = stripHi (Str.ofString "\t \n").cps.contains true z 0 := by
    unfold stripHi
    rw [takeWhile_congr' (p := Unicode.isSpace) (q := (Str.ofString "\t \n").cps.contains)]
    intro c hc
    exact hp c (by simpa using hc)
  unfold Txt.rstrip Txt.rstripChars Txt.stripBy stripSame PySem.stripped
  have l0 : ∀ g : Nat → Bool, stripLo g false z = 0 := fun _ => rfl
  rw [l0, l0, e]
theorem sgn_six {x y : Str} {i : Nat} (ha : Alpha x) (hy : TagA y) (hi : i < minL x y) : ∀ c ∈ (sgn x y i).cps.toList, c ∈ six := by
  have hx' : i < x.cps.size := Nat.lt_of_lt_of_le hi (Nat.min_le_left _ _)
  have hy' : i < y.cps.size := Nat.lt_of_lt_of_le hi (Nat.min_le_right _ _)
  have ex := item_at (x := x) (i := i) (Array.getElem?_eq_getElem hx')
  have ey := item_at (x := y) (i := i) (Array.getElem?_eq_getElem hy')
  have my : y.cps[i] ∈ tagsA := hy _ (by simp)
  have mx : x.cps[i] ∈ alpha := ha _ (by simp)
  have sy : ∀ c ∈ (Txt.item y i).cps.toList, c ∈ six := fun c hc => by
    rw [ey] at hc
    have : c = y.cps[i] := by simpa using hc
    rw [this]
    simp [tagsA] at my
    rcases my with e | e | e | e <;> rw [e] <;> decide
  unfold sgn
  split
  · split
    · exact sy
    · rename_i hw
      intro c hc
      rw [ex] at hc hw
      have : c = x.cps[i] := by simpa using hc
      rw [this]
      simp [alpha] at mx
      rcases mx with e | e | e | e | e <;> rw [e] at hw ⊢ <;> first | decide | exact absurd (by decide +kernel) hw
  · exact sy
theorem lay_six {x y : Str} (ha : Alpha x) (hy : TagA y) : ∀ n : Nat, n ≤ minL x y → ∀ c ∈ (layN x y n).cps.toList, c ∈ six
  | 0, _ => fun c hc => by
    have e : (layN x y 0).cps.toList = [] := by show (Str.ofString "").cps.toList = []; decide +kernel
    rw [e] at hc; cases hc
  | n + 1, h => fun c hc => by
    have e : (layN x y (n + 1)).cps = (layN x y n).cps ++ (sgn x y n).cps := rfl
    rw [e, Array.toList_append] at hc
    rcases List.mem_append.mp hc with hc | hc
    · exact lay_six ha hy n (Nat.le_of_succ_le h) c hc
    · exact sgn_six ha hy h c hc
theorem tag_six {x y : Str} (ha : Alpha x) (hy : TagA y) : ∀ c ∈ (tagF x y).cps.toList, c ∈ six := by
  intro c hc
  obtain ⟨j, _, e⟩ := rstrip_is_prefix (layN x y (minL x y))
  unfold tagF at hc
  rw [e] at hc
  refine lay_six ha hy _ (Nat.le_refl _) c ?_
  rw [StrLaws.strSub_toList] at hc
  exact List.mem_of_mem_drop (List.mem_of_mem_take hc)
theorem hint_ok {x y : Str} {k : Int} (ha : Alpha x) (hy : TagA y) (h : errOf x y k = none) : hintF x y k = tagF x y := by
  unfold errOf at h
  unfold hintF
  split at h
  · cases h
  · rename_i hn
    rw [if_neg hn]
    split at h
    · cases h
    · rename_i h3
      rw [if_neg h3]
      exact (rstrip_eq (lay_six ha hy _ (Nat.le_refl _))).symm
theorem hint_bad {x y : Str} {k : Int} {c : String} (h : errOf x y k = some c) : hintF x y k = Str.ofString c ∧ isErr (Str.ofString c) = true := by
  unfold errOf at h
  unfold hintF
  split at h
  · rename_i hn
    cases h
    rw [if_pos hn]
    exact ⟨rfl, by decide +kernel⟩
  · rename_i hn
    rw [if_neg hn]
    split at h
    · rename_i h3
      cases h
      rw [if_pos h3]
      exact ⟨rfl, by decide +kernel⟩
    · cases h
theorem tag_noErr {x y : Str} (ha : Alpha x) (hy : TagA y) : isErr (tagF x y) = false := by
  have h := tag_six ha hy
  cases e : isErr (tagF x y) with
  | false => rfl
  | true =>
    unfold isErr at e
    rw [List.any_eq_true] at e
    obtain ⟨z, hz, he⟩ := e
    have hq : z = tagF x y := by simpa using he
    rw [← hq] at h
    rcases List.mem_cons.mp hz with rfl | hz
    · exact absurd (h 84 (by decide +kernel)) (by decide)
    · rw [List.mem_singleton.mp hz] at h
      exact absurd (h 65 (by decide +kernel)) (by decide)
/-- what the law's try tells is what is due -/
theorem told_due {x0 x1 g0 g1 : Str} {k0 k1 : Int} (a0 : Alpha x0) (a1 : Alpha x1) (y0 : TagA g0) (y1 : TagA g1) : toldL x0 x1 g0 g1 k0 k1 = dueL x0 x1 (hintF x0 g0 k0) (hintF x1 g1 k1) k0 k1 := by
  unfold toldL rows0 fin0
  cases e0 : errOf x0 g0 k0 with
  | some c =>
    obtain ⟨h, hb⟩ := hint_bad e0
    rw [h, due_0 hb]
    rfl
  | none =>
    have h0 := hint_ok a0 y0 e0
    have n0 := tag_noErr a0 y0
    rw [h0]
    cases e1 : errOf x1 g1 k1 with
    | some c =>
      obtain ⟨h, hb⟩ := hint_bad e1
      rw [h, due_1 n0 hb]
      rfl
    | none =>
      have h1 := hint_ok a1 y1 e1
      have n1 := tag_noErr a1 y1
      rw [h1]
      show rows1 x0 x1 (tagF x0 g0) (tagF x1 g1) k0 k1 ++ _ = _
      unfold rows1 fin1
      by_cases q0 : k0 = 0
      · rw [if_neg (fun z => z q0), if_neg (fun z => z q0)]
        unfold rows2 rows3 fin3
        by_cases q1 : k1 = 0
        · rw [if_neg (fun z => z q1), if_neg (fun z => z q1), due_4 n0 n1 q0 q1]
          simp
        · rw [if_pos q1, if_pos q1, due_3 n0 n1 q0 q1]
          simp [tErr]
      · rw [if_pos q0, if_pos q0, due_2 n0 n1 q0]
        rfl
end Mine

end
section -- Enc
open PySem PySem.W PyProof.Rows PySem.Calls
set_option Elab.async false
set_option maxRecDepth 100000
set_option pp.maxSteps 3000
namespace Mine
open Builtin._codecs
def encB (x : Str) : Array UInt8 := x.cps.foldl (fun acc y => acc ++ (utf8Codec.bytesOf y).toArray) #[]
theorem alpha_one {c : Nat} (h : c ∈ alpha) : utf8Codec.bad c = false ∧ (utf8Codec.bytesOf c).length = 1 := by
  simp [alpha] at h
  rcases h with rfl | rfl | rfl | rfl | rfl <;> decide +kernel
theorem encB_size {x : Str} (ha : Alpha x) : (encB x).size = x.cps.size := by
  unfold encB
  rw [← Array.foldl_toList]
  have key : ∀ (l : List Nat) (acc : Array UInt8), (∀ c ∈ l, c ∈ alpha) → (l.foldl (fun acc y => acc ++ (utf8Codec.bytesOf y).toArray) acc).size = acc.size + l.length := by
    intro l
    induction l with
    | nil => intro acc _; rfl
    | cons a l ih =>
      intro acc h
      rw [List.foldl_cons, ih _ fun c hc => h c (.tail _ hc), Array.size_append, List.length_cons]
      have := (alpha_one (h a (.head _))).2
      have e : (utf8Codec.bytesOf a).toArray.size = 1 := by simpa using this
      omega
  rw [key _ _ ha]
  simp
theorem enc_narrow {x : Str} (ha : Alpha x) (hl : 1 ≤ x.length) (h100 : x.length ≤ 100) (self : Value) : encodeNarrow "str.encode" utf8Codec none self x = pure (encB x) := by
  obtain ⟨n, hn⟩ : ∃ n, x.length = n + 1 := ⟨x.length - 1, by omega⟩
  have hsz : x.cps.size = n + 1 := hn
  have h0 : x.cps[0]? = some x.cps[0] := Array.getElem?_eq_getElem (by omega)
  have b0 : utf8Codec.bad x.cps[0] = false := (alpha_one (ha _ (Array.mem_toList_iff.mpr (Array.getElem_mem _)))).1
  have ee : x.cps.extract = x.cps := by simp
  have hf : Array.findIdx? utf8Codec.bad x.cps = none := by
    rw [Array.findIdx?_eq_none_iff]
    intro c hc
    exact (alpha_one (ha c (by simpa using hc))).1
  have z0 : ¬ ((#[] : Array UInt8).size > sizeLine) := by simp
  have he : x.cps.extract 0 (n + 1) = x.cps := by rw [← hsz]; simp
  have fe : Array.foldl (fun acc y => acc ++ (utf8Codec.bytesOf y).toArray) (#[] : Array UInt8) x.cps 0 (n + 1) = encB x := by unfold encB; rw [hsz]
  have z1 : ¬ ((encB x).size > sizeLine) := by rw [encB_size ha, sizeLine_eq, hsz]; omega
  have hlast : x.cps[0 + (n + 1)]? = none := by simp [hsz]
  unfold encodeNarrow
  rw [hn]
  simp only [Std.Legacy.Range.forIn_eq_forIn_range', Std.Legacy.Range.size, Nat.sub_zero, Nat.add_sub_cancel, Nat.div_one, List.range'_succ, List.forIn_cons, h0, b0, Bool.not_false, if_true, ee, hf, Option.getD_none, hsz, he, fe, if_neg z0, pure_bind]
  cases n with
  | zero => simp only [List.range'_zero, List.forIn_nil, pure_bind]
  | succ n =>
    simp only [List.range'_succ, List.forIn_cons, hlast, if_neg z1, pure_bind]
section
variable {prog : Program} {w : World} {A : Around} {E : Value → Shared → Prop} {s : Shared} {x : Str} {t : Tok} {Q : Value → Shared → Prop}
theorem call_encode (ha : Alpha x) (hl : 1 ≤ x.length) (h100 : x.length ≤ 100) (hQ : ∀ t' tk, Q (.bytes (encB x) t') { s with toks := tk }) : wpAny (model prog w) A (call (.builtin "str.encode") [.str x t]) Q E s := by
  refine wpAny_call (codeAny_call_builtin F.slot_str_encode.plain F.entry_str_encode (F.slot_str_encode.check _ _ _ _ _ _ _ _ (typeIs_str _ _ _) (F.args_str_encode_1 _) ?_))
  rw [encode_tree, encodeRoad_utf8, enc_narrow ha hl h100]
  simp only [pure_bind]
  refine wpAny_bind (wpAny_mkBytes ?_ ?_)
  · exact wpAny_pure (hQ _ _)
  · rw [encB_size ha, sizeLine_eq]; show x.length ≤ _; omega
end
end Mine

end
section -- Tn0
open PySem PySem.W PyProof.Rows PySem.Calls
set_option Elab.async false
set_option maxRecDepth 100000
set_option pp.maxSteps 3000
namespace Mine
section
variable {prog : Program} {w : World} {A : Around} {E : Value → Shared → Prop} {s : Shared} {h₀ : Heap} {L : Addr} {m : Str → Option Value} {news : List (Addr × Obj)} {Q : Value → Shared → Prop}
theorem list_strK {x : Str} {t : Tok} (F : Fr h₀ L s.heap m) (N : News h₀ L s.heap news) (hh : A.handled = none) (hx : x.length ≤ 100)
    (h : ∀ D c acc h' tk, Fr h₀ L h' m → News h₀ L h' ((D, W.listOf acc c) :: news) → (∀ q ∈ news, q.1 < D) → ItemsOf (SignAt x) acc x.cps.size → Q (.ref D) { s with heap := h', toks := tk }) :
    wpAny (model prog w) A (call (.type "list") [.str x t]) Q E s :=
  call_list_str hh x t (fun h' tk acc c hk hD hacc => h _ c acc h' tk (F.keeps hk) (news_pushed F N hk hD rfl) (fun q hq => Heap.lt_size (N q hq).1) hacc) (by rw [sizeLine_eq]; show x.length ≤ _; omega)
end
theorem src_list {x : Str} {acc : Array Value} {a : Addr} {h : Heap} {c : Nat} (hi : ItemsOf (SignAt x) acc x.cps.size) (e : h.get? a = some (W.listOf acc c)) : Src h x (.ref a) 1 := by
  refine .list a acc ⟨_, e, rfl, _, rfl⟩ hi.1 fun i v hv => ?_
  exact hi.2 i v hv
theorem cls2 {a b : Addr} {x y : Array Value} {n k : Nat} : ∀ q ∈ [(a, W.listOf x n), (b, W.listOf y k)], q.2.cls = .type "list" := by
  intro q hq
  rcases List.mem_cons.mp hq with rfl | hq
  · rfl
  · rw [List.mem_singleton.mp hq]
end Mine

end
section -- Tn1
open PySem PySem.W PyProof.Rows PySem.Calls
set_option Elab.async false
set_option maxRecDepth 100000
namespace Mine
set_option maxHeartbeats 8000000 in
theorem old_src (w : World) (mean : ExcName → Option Value) (mg mb : Str → Option Value) (h₀ : Heap) (L al at_ : Addr) (s : Shared) (Q : Flow → Shared → Prop) (E : Value → Shared → Prop) (x0 x1 g0 g1 : Str) (k0 k1 : Int) (u0 u1 u2 u3 t0 t1 : Tok) (n1 n2 : Nat) (ps : Array Value) (rest : List (Addr × Obj)) (m : Str → Option Value)
    (B : Below callerA h₀ [] h₀) (X : (K w.params).In h₀) (T : Top (q pw0) loose0 mean mg mb h₀) (ha : Alpha x0) (hl : 1 ≤ x0.length) (hm : x0.length ≤ 100) (h0 : 0 ≤ k0) (h4 : k0 < 4)
    (F : Fr h₀ L s.heap (fun y => if y = Str.ofString "two" then some (.int k1 t1) else if y = Str.ofString "one" then some (.int k0 t0) else if y = Str.ofString "tags" then some (.ref at_) else if y = Str.ofString "lines" then some (.ref al) else m y))
    (N : News h₀ L s.heap ((at_, W.listOf #[.str g0 u2, .str g1 u3] n2) :: (al, W.listOf #[.str x0 u0, .str x1 u1] n1) :: (248, tabObj ps) :: rest))
    (hQ : ∀ v extra h' tk, Fr h₀ L h' (fun y => if y = Str.ofString "old" then some v else (fun y => if y = Str.ofString "two" then some (.int k1 t1) else if y = Str.ofString "one" then some (.int k0 t0) else if y = Str.ofString "tags" then some (.ref at_) else if y = Str.ofString "lines" then some (.ref al) else m y) y) → News h₀ L h' (extra ++ ((at_, W.listOf #[.str g0 u2, .str g1 u3] n2) :: (al, W.listOf #[.str x0 u0, .str x1 u1] n1) :: (248, tabObj ps) :: rest)) →
      (∀ h'', News h₀ L h'' extra → Src h'' x0 v k0) → (∀ q ∈ extra, q.2.cls = .type "list") → Q .next { s with heap := h', toks := tk }) :
    wpAny (model PySem.Challenge.rw_dm0062_06.row.prog w) (callerA.deeper (lawE L)) (exec (innerB.getD 0 (.Pass default)) (lawE L)) Q E s := by
  revert X
  k_fill
  intro X
  show wpAny _ _ (exec (.Assign _ _ _) _) _ _ _
  repeat' (first | (fail_if_success (with_reducible show wpAny _ _ (call (Value.type _) _) _ _ _)); (fail_if_success (with_reducible show wpAny _ _ (getMethod (Value.str _ _) _ _) _ _ _)); first | (k_unfold; (try dsimp only)) | walk1 | (dsimp only; walk1) | fail "no step")
  refine' list_strK ?k1 ?k2 ?k3 hm ?_
  case k1 => k_asm
  case k2 => k_asm
  case k3 => rfl
  intro D' c' acc' h' tk' F' N' l1 hacc'
  (try k_lt l1)
  repeat' (first | (fail_if_success (with_reducible show wpAny _ _ (call (Value.type _) _) _ _ _)); (fail_if_success (with_reducible show wpAny _ _ (getMethod (Value.str _ _) _ _) _ _ _)); first | (k_unfold; (try dsimp only)) | walk1 | (dsimp only; walk1) | fail "no step")
  refine getMethod_builtin (typeIs_str _ _ _) PySem.F.plainAttrs_str PySem.F.slot_str_encode PySem.F.type_str_encode (fun _ e => nomatch e) ?_
  repeat' (first | (fail_if_success (with_reducible show wpAny _ _ (call (Value.builtin _) _) _ _ _)); first | (k_unfold; (try dsimp only)) | walk1 | (dsimp only; walk1) | fail "no step")
  refine call_encode ha hl hm fun t' tk' => ?_
  repeat' (first | (fail_if_success (with_reducible show wpAny _ _ (subscriptTail _ _ _ _) _ _ _)); first | (k_unfold; (try dsimp only)) | walk1 | (dsimp only; walk1) | fail "no step")
  have k4 : k0 = 0 ∨ k0 = 1 ∨ k0 = 2 ∨ k0 = 3 := by omega
  rcases k4 with rfl | rfl | rfl | rfl
  · repeat' (first | (fail_if_success (with_reducible show Q _ _)); first | walk1 | (dsimp only; walk1) | fail "no step")
    exact hQ (.str x0 _) [(_, _), (_, _)] _ _ (by assumption) (by assumption) (fun _ _ => .str _) cls2
  · repeat' (first | (fail_if_success (with_reducible show Q _ _)); first | walk1 | (dsimp only; walk1) | fail "no step")
    exact hQ (.ref D') [(_, _), (D', _)] _ _ (by assumption) (by assumption) (fun _ nn => src_list hacc' (nn _ (.tail _ (.head _))).1) cls2
  · repeat' (first | (fail_if_success (with_reducible show Q _ _)); first | walk1 | (dsimp only; walk1) | fail "no step")
    exact hQ (.bytes (encB x0) t') [(_, _), (_, _)] _ _ (by assumption) (by assumption) (fun _ _ => .bytes _ _ (encB_size ha)) cls2
  · repeat' (first | (fail_if_success (with_reducible show Q _ _)); first | walk1 | (dsimp only; walk1) | fail "no step")
    exact hQ .none [(_, _), (_, _)] _ _ (by assumption) (by assumption) (fun _ _ => .none) cls2
set_option maxHeartbeats 8000000 in
theorem new_src (w : World) (mean : ExcName → Option Value) (mg mb : Str → Option Value) (h₀ : Heap) (L al at_ : Addr) (s : Shared) (Q : Flow → Shared → Prop) (E : Value → Shared → Prop) (x0 x1 g0 g1 : Str) (k0 k1 : Int) (u0 u1 u2 u3 t0 t1 : Tok) (n1 n2 : Nat) (ps : Array Value) (rest : List (Addr × Obj)) (m : Str → Option Value) (vo : Value)
    (B : Below callerA h₀ [] h₀) (X : (K w.params).In h₀) (T : Top (q pw0) loose0 mean mg mb h₀) (ha : Alpha x1) (hl : 1 ≤ x1.length) (hm : x1.length ≤ 100) (h0 : 0 ≤ k1) (h4 : k1 < 4)
    (F : Fr h₀ L s.heap (fun y => if y = Str.ofString "old" then some vo else if y = Str.ofString "two" then some (.int k1 t1) else if y = Str.ofString "one" then some (.int k0 t0) else if y = Str.ofString "tags" then some (.ref at_) else if y = Str.ofString "lines" then some (.ref al) else m y))
    (N : News h₀ L s.heap ((at_, W.listOf #[.str g0 u2, .str g1 u3] n2) :: (al, W.listOf #[.str x0 u0, .str x1 u1] n1) :: (248, tabObj ps) :: rest))
    (hQ : ∀ v extra h' tk, Fr h₀ L h' (fun y => if y = Str.ofString "new" then some v else (fun y => if y = Str.ofString "old" then some vo else if y = Str.ofString "two" then some (.int k1 t1) else if y = Str.ofString "one" then some (.int k0 t0) else if y = Str.ofString "tags" then some (.ref at_) else if y = Str.ofString "lines" then some (.ref al) else m y) y) → News h₀ L h' (extra ++ ((at_, W.listOf #[.str g0 u2, .str g1 u3] n2) :: (al, W.listOf #[.str x0 u0, .str x1 u1] n1) :: (248, tabObj ps) :: rest)) →
      (∀ h'', News h₀ L h'' extra → Src h'' x1 v k1) → (∀ q ∈ extra, q.2.cls = .type "list") → Q .next { s with heap := h', toks := tk }) :
    wpAny (model PySem.Challenge.rw_dm0062_06.row.prog w) (callerA.deeper (lawE L)) (exec (innerB.getD 1 (.Pass default)) (lawE L)) Q E s := by
  revert X
  k_fill
  intro X
  show wpAny _ _ (exec (.Assign _ _ _) _) _ _ _
  repeat' (first | (fail_if_success (with_reducible show wpAny _ _ (call (Value.type _) _) _ _ _)); (fail_if_success (with_reducible show wpAny _ _ (getMethod (Value.str _ _) _ _) _ _ _)); first | (k_unfold; (try dsimp only)) | walk1 | (dsimp only; walk1) | fail "no step")
  refine' list_strK ?k1 ?k2 ?k3 hm ?_
  case k1 => k_asm
  case k2 => k_asm
  case k3 => rfl
  intro D' c' acc' h' tk' F' N' l1 hacc'
  (try k_lt l1)
  repeat' (first | (fail_if_success (with_reducible show wpAny _ _ (call (Value.type _) _) _ _ _)); (fail_if_success (with_reducible show wpAny _ _ (getMethod (Value.str _ _) _ _) _ _ _)); first | (k_unfold; (try dsimp only)) | walk1 | (dsimp only; walk1) | fail "no step")
  refine getMethod_builtin (typeIs_str _ _ _) PySem.F.plainAttrs_str PySem.F.slot_str_encode PySem.F.type_str_encode (fun _ e => nomatch e) ?_
  repeat' (first | (fail_if_success (with_reducible show wpAny _ _ (call (Value.builtin _) _) _ _ _)); first | (k_unfold; (try dsimp only)) | walk1 | (dsimp only; walk1) | fail "no step")
  refine call_encode ha hl hm fun t' tk' => ?_
  repeat' (first | (fail_if_success (with_reducible show wpAny _ _ (subscriptTail _ _ _ _) _ _ _)); first | (k_unfold; (try dsimp only)) | walk1 | (dsimp only; walk1) | fail "no step")
  have k4 : k1 = 0 ∨ k1 = 1 ∨ k1 = 2 ∨ k1 = 3 := by omega
  rcases k4 with rfl | rfl | rfl | rfl
  · repeat' (first | (fail_if_success (with_reducible show Q _ _)); first | walk1 | (dsimp only; walk1) | fail "no step")
    exact hQ (.str x1 _) [(_, _), (_, _)] _ _ (by assumption) (by assumption) (fun _ _ => .str _) cls2
  · repeat' (first | (fail_if_success (with_reducible show Q _ _)); first | walk1 | (dsimp only; walk1) | fail "no step")
    exact hQ (.ref D') [(_, _), (D', _)] _ _ (by assumption) (by assumption) (fun _ nn => src_list hacc' (nn _ (.tail _ (.head _))).1) cls2
  · repeat' (first | (fail_if_success (with_reducible show Q _ _)); first | walk1 | (dsimp only; walk1) | fail "no step")
    exact hQ (.bytes (encB x1) t') [(_, _), (_, _)] _ _ (by assumption) (by assumption) (fun _ _ => .bytes _ _ (encB_size ha)) cls2
  · repeat' (first | (fail_if_success (with_reducible show Q _ _)); first | walk1 | (dsimp only; walk1) | fail "no step")
    exact hQ .none [(_, _), (_, _)] _ _ (by assumption) (by assumption) (fun _ _ => .none) cls2
end Mine

end
section -- Tn2
open PySem PySem.W PyProof.Rows PySem.Calls
set_option Elab.async false
set_option maxRecDepth 100000
set_option pp.maxSteps 3000
namespace Mine
/-- told = [] -/
theorem told_new {w : World} {A : Around} {Q : Flow → Shared → Prop} {E : Value → Shared → Prop} {h₀ : Heap} {L : Addr} {s : Shared} {m : Str → Option Value} {news : List (Addr × Obj)} (F : Fr h₀ L s.heap m) (N : News h₀ L s.heap news)
    (hQ : ∀ tl h', Fr h₀ L h' (fun y => if y = Str.ofString "told" then some (.ref tl) else m y) → News h₀ L h' ((tl, W.listOf #[] 0) :: news) → (∀ q ∈ news, q.1 < tl) → ∀ tk, Q .next { s with heap := h', toks := tk }) :
    wpAny (qM w) A (exec (innerB.getD 2 (.Pass default)) (lawE L)) Q E s := by
  show wpAny _ _ (exec (.Assign [.Name (Str.ofString "told") _] (.List [] _) _) _) _ _ _
  refine wpAny_Assign_Name ?_ rfl
  walk1
  refine Calls.spliced_nil ?_
  show wpAny _ _ (newList []) _ _ _
  refine wpAny_newObj_type ?_ (by size_fits)
  have kp : ∀ b o, s.heap.get? b = some o → (s.heap.push (W.listOf #[] 0)).get? b = some o := fun b o e => Heap.get?_push_of_some _ e
  have F1 := F.keeps kp
  have N1 := news_pushed F N kp (Heap.get?_push_size _ rfl) rfl
  refine wpAny_storeName_local rfl F1.ns (fun h2 hn2 hs2 => ?_) rfl
  exact hQ _ h2 (F1.set hn2 hs2) (N1.set hs2) (fun q hq => Heap.lt_size (N q hq).1) _
end Mine

end
section -- Tn3
open PySem PySem.W PyProof.Rows PySem.Calls
set_option Elab.async false
set_option maxRecDepth 100000
namespace Mine
theorem strs_get : ∀ {xs ys : List Value} {ds : List Str}, Mine.StrsAre xs ds → Mine.StrsAre ys ds → ∀ (j : Nat) (h1 : j < xs.length) (h2 : j < ys.length), ∃ d t u, xs[j] = .str d t ∧ ys[j] = .str d u
  | _, _, _, .nil, .nil, j, h1, _ => absurd h1 (Nat.not_lt_zero _)
  | _, _, _, .cons ⟨t, e⟩ r, .cons ⟨u, e'⟩ r', 0, _, _ => ⟨_, t, u, e, e'⟩
  | _, _, _, .cons _ r, .cons _ r', j + 1, h1, h2 => strs_get r r' j (Nat.lt_of_succ_lt_succ h1) (Nat.lt_of_succ_lt_succ h2)
theorem ne_strs {prog : Program} {w : World} {A : Around} {E : Value → Shared → Prop} {s : Shared} {a b : Addr} {xs ys : Array Value} {ds : List Str} {Q : Value → Shared → Prop} (ha : s.heap.IsList a xs) (hb : s.heap.IsList b ys) (hi : Mine.StrsAre xs.toList ds) (hj : Mine.StrsAre ys.toList ds)
    (hu : A.units < cLine) (h : Q (.bool false) s) : wpAny (model prog w) A (compareOp .NotEq (.ref a) (.ref b)) Q E s := by
  have e1 := hi.length_eq
  have e2 := hj.length_eq
  rw [Array.length_toList] at e1 e2
  refine PySem.SeqAt.RcNeAt.lists (e := fun _ => true) ha hb (e1.trans e2.symm) hu (fun j h1 h2 => ?_) prog w E Q ?_
  · obtain ⟨d, t, u, q1, q2⟩ := strs_get hi hj j (by simpa using h1) (by simpa using h2)
    have q1' : xs[j] = .str d t := by simpa using q1
    have q2' : ys[j] = .str d u := by simpa using q2
    rw [q1', q2']
    have z := PySem.SeqAt.EqAt.str_str (A := A.in1) (s := s) d t d u
    rw [beq_self_eq_true] at z
    exact z
  · have : (List.range xs.size).all (fun _ => true) = true := by simp
    rw [this]; exact h
end Mine

end
section -- Tn4
open PySem PySem.W PyProof.Rows PySem.Calls
set_option Elab.async false
set_option maxRecDepth 100000
set_option pp.maxSteps 3000
namespace Mine
theorem hint_len100 {x y : Str} {k : Int} (hx : x.length ≤ 100) : (hintF x y k).length ≤ 100 := by
  unfold hintF
  split
  · decide +kernel
  · split
    · decide +kernel
    · refine Nat.le_trans (len_rstripChars _ _) ?_
      rw [lay_len]; unfold minL; omega
set_option maxHeartbeats 8000000 in
theorem if_due (w : World) (mean : ExcName → Option Value) (mg mb : Str → Option Value) (h₀ : Heap) (L tl al at_ : Addr) (s : Shared) (Q : Flow → Shared → Prop) (E : Value → Shared → Prop) (x0 x1 g0 g1 : Str) (k0 k1 : Int) (u0 u1 u2 u3 t0 t1 : Tok) (n1 n2 c : Nat) (vs : Array Value) (rest : List (Addr × Obj)) (m : Str → Option Value)
    (B : Below callerA h₀ [] h₀) (X : (K w.params).In h₀) (T : Top (q pw0) loose0 mean mg mb h₀) (lx0 : x0.length ≤ 100) (lx1 : x1.length ≤ 100) (lg0 : g0.length ≤ 100) (lg1 : g1.length ≤ 100)
    (F : Fr h₀ L s.heap (fun y => if y = Str.ofString "told" then some (.ref tl) else if y = Str.ofString "two" then some (.int k1 t1) else if y = Str.ofString "one" then some (.int k0 t0) else if y = Str.ofString "tags" then some (.ref at_) else if y = Str.ofString "lines" then some (.ref al) else m y))
    (N : News h₀ L s.heap ((tl, W.listOf vs c) :: (at_, W.listOf #[.str g0 u2, .str g1 u3] n2) :: (al, W.listOf #[.str x0 u0, .str x1 u1] n1) :: rest))
    (hs : StrsAre vs.toList (dueL x0 x1 (hintF x0 g0 k0) (hintF x1 g1 k1) k0 k1))
    (hQ : ∀ h' tk, Fr h₀ L h' (fun y => if y = Str.ofString "told" then some (.ref tl) else if y = Str.ofString "two" then some (.int k1 t1) else if y = Str.ofString "one" then some (.int k0 t0) else if y = Str.ofString "tags" then some (.ref at_) else if y = Str.ofString "lines" then some (.ref al) else m y) →
      News h₀ L h' ((tl, W.listOf vs c) :: (at_, W.listOf #[.str g0 u2, .str g1 u3] n2) :: (al, W.listOf #[.str x0 u0, .str x1 u1] n1) :: rest) → Q .next { s with heap := h', toks := tk }) :
    wpAny (model PySem.Challenge.rw_dm0062_06.row.prog w) (callerA.deeper (lawE L)) (exec (innerB.getD 4 (.Pass default)) (lawE L)) Q E s := by
  revert X
  k_fill
  intro X
  show wpAny _ _ (exec (.If _ _ _ _) _) _ _ _
  repeat' (first | (fail_if_success (with_reducible show wpAny _ _ (call (Value.ref _) _) _ _ _)); first | (k_unfold; (try dsimp only)) | walk1 | (dsimp only; walk1) | fail "no step")
  (rename News h₀ L _ _ => gN)
  (rename Fr h₀ L _ _ => gF)
  have gB := B.push (name := Str.ofString "law") (scope := fs_11 pw0) (a := 336) (cd := .ref 335) gF rfl
  have ntl := gN _ (.tail _ (.head _))
  refine wpAny_call (due_pure w mean mg mb (1 + claimMargin + 1) 7 (some []) [lawE L] _ h₀ _ _ al at_ _ x0 x1 g0 g1 k0 k1 u0 u1 u2 u3 t0 t1 lx0 lx1 lg0 lg1 ⟨_, (gN _ (.tail _ (.tail _ (.tail _ (.head _))))).1, rfl, _, rfl⟩ ⟨_, (gN _ (.tail _ (.tail _ (.head _)))).1, rfl, _, rfl⟩ ⟨_, (gN _ (.head _)).1, rfl, _, rfl⟩
    (hint_len100 lx0) (hint_len100 lx1) gB (X.keeps gF.keep) (T.keeps gF.keep) (by decide) (by decide) fun a h' tk' vs' n' kp ha _ hv => ?_)
  refine ne_strs ⟨_, kp _ _ ntl.1, rfl, _, rfl⟩ ⟨_, ha, rfl, _, rfl⟩ hs hv (show 7 < cLine by decide) (wpAny_truthy_bool ?_)
  rw [if_neg Bool.false_ne_true]
  exact wpAny_execs_nil (hQ h' tk' (gF.keeps kp) fun q hq => ⟨kp _ _ (gN q (.tail _ hq)).1, (gN q (.tail _ hq)).2⟩)
end Mine

end
section -- Tn5
open PySem PySem.W PyProof.Rows PySem.Calls
set_option Elab.async false
set_option maxRecDepth 100000
set_option pp.maxSteps 3000
namespace Mine
/-- the law's state behind the first loop -/
structure LSt (h₀ : Heap) (L al at_ : Nat) (x0 x1 g0 g1 : Str) (u0 u1 u2 u3 : Tok) (n1 n2 : Nat) (rest : List (Addr × Obj)) (s : Shared) (m : Str → Option Value) : Prop where
  F : Fr h₀ L s.heap m
  lines : m (Str.ofString "lines") = some (.ref al)
  tags : m (Str.ofString "tags") = some (.ref at_)
  N : ∃ ps : Array Value, TriplesOk ps.toList ∧ News h₀ L s.heap ((at_, W.listOf #[.str g0 u2, .str g1 u3] n2) :: (al, W.listOf #[.str x0 u0, .str x1 u1] n1) :: (248, tabObj ps) :: rest)
  bare : AllBare s.gens
theorem execs_innerB {w : World} {A : Around} {Q : Flow → Shared → Prop} {E : Value → Shared → Prop} {L : Addr} {s : Shared}
    (h : wpAny (qM w) A (exec (innerB.getD 0 (.Pass default)) (lawE L)) (fun f s => match f with | .next => wpAny (qM w) A (exec (innerB.getD 1 (.Pass default)) (lawE L)) (fun f s => match f with | .next => wpAny (qM w) A (exec (innerB.getD 2 (.Pass default)) (lawE L)) (fun f s => match f with
      | .next => wpAny (qM w) A (exec (innerB.getD 3 (.Pass default)) (lawE L)) (fun f s => match f with | .next => wpAny (qM w) A (exec (innerB.getD 4 (.Pass default)) (lawE L)) Q E s | f => Q f s) E s | f => Q f s) E s | f => Q f s) E s | f => Q f s) E s) :
    wpAny (qM w) A (execs innerB (lawE L)) Q E s := by
  have e : innerB = [innerB.getD 0 (.Pass default), innerB.getD 1 (.Pass default), innerB.getD 2 (.Pass default), innerB.getD 3 (.Pass default), innerB.getD 4 (.Pass default)] := by rfl
  rw [e]
  refine wpAny_execs_cons (wpAny_mono h (fun f s h => ?_) fun _ _ x => x)
  cases f with
  | next =>
    refine wpAny_execs_cons (wpAny_mono h (fun f s h => ?_) fun _ _ x => x)
    cases f with
    | next =>
      refine wpAny_execs_cons (wpAny_mono h (fun f s h => ?_) fun _ _ x => x)
      cases f with
      | next =>
        refine wpAny_execs_cons (wpAny_mono h (fun f s h => ?_) fun _ _ x => x)
        cases f with
        | next =>
          refine wpAny_execs_cons (wpAny_mono h (fun f s h => ?_) fun _ _ x => x)
          cases f with
          | next => exact wpAny_execs_nil h
          | _ => exact h
        | _ => exact h
      | _ => exact h
    | _ => exact h
  | _ => exact h
end Mine

end
section -- Tn6
open PySem PySem.W PyProof.Rows PySem.Calls
set_option Elab.async false
set_option maxRecDepth 100000
set_option pp.maxSteps 3000
namespace Mine
theorem chain1 {m : Str → Option Value} {a : Str} {v : Option Value} (h : m a = v) : (fun y => if y = a then v else m y) = m := funext fun y => by
  by_cases q : y = a
  · rw [if_pos q, q, h]
  · rw [if_neg q]
theorem chain4 {m : Str → Option Value} {a b c d : Str} {va vb vc vd : Option Value} (ha : m a = va) (hb : m b = vb) (hc : m c = vc) (hd : m d = vd) : (fun y => if y = a then va else if y = b then vb else if y = c then vc else if y = d then vd else m y) = m := funext fun y => by
  by_cases q : y = a
  · rw [if_pos q, q, ha]
  · rw [if_neg q]
    by_cases q : y = b
    · rw [if_pos q, q, hb]
    · rw [if_neg q]
      by_cases q : y = c
      · rw [if_pos q, q, hc]
      · rw [if_neg q]
        by_cases q : y = d
        · rw [if_pos q, q, hd]
        · rw [if_neg q]
theorem chain5 {m : Str → Option Value} {a b c d e : Str} {va vb vc vd ve : Option Value} (ha : m a = va) (hb : m b = vb) (hc : m c = vc) (hd : m d = vd) (he : m e = ve) : (fun y => if y = a then va else if y = b then vb else if y = c then vc else if y = d then vd else if y = e then ve else m y) = m := funext fun y => by
  by_cases q : y = a
  · rw [if_pos q, q, ha]
  · rw [if_neg q]
    exact congrFun (chain4 hb hc hd he) y
theorem src_ne {h : Heap} {x : Str} {v : Value} {k : Int} {tl a : Nat} (S : Src h x v k) (hx : 1 ≤ x.length) (ht : h.get? tl = some (W.listOf #[] 0)) (e : v = .ref a) : a ≠ tl := by
  intro q
  cases S with
  | list b vs l hs r =>
    cases e
    obtain ⟨o, ho, hc, n, hd⟩ := l
    rw [q, ht] at ho; cases ho; cases hd
    have : (0 : Nat) = x.cps.size := hs
    have : x.length = 0 := this.symm
    omega
  | _ => cases e
set_option maxHeartbeats 4000000 in
theorem turn {w : World} {mean : ExcName → Option Value} {mg mb : Str → Option Value} {h₀ : Heap} {L al at_ : Nat} {x0 x1 g0 g1 : Str} {u0 u1 u2 u3 t0 t1 : Tok} {n1 n2 : Nat} {rest : List (Addr × Obj)} {s : Shared} {m : Str → Option Value} {Q : Flow → Shared → Prop} {E : Value → Shared → Prop} {k0 k1 : Int}
    (B : Below callerA h₀ [] h₀) (X : (K w.params).In h₀) (T : Top (q pw0) loose0 mean mg mb h₀) (h8 : h₀.get? 248 = none) (a0 : Alpha x0) (a1 : Alpha x1) (y0 : TagA g0) (y1 : TagA g1) (p0 : 1 ≤ x0.length) (p1 : 1 ≤ x1.length) (l0 : x0.length ≤ 100) (l1 : x1.length ≤ 100) (lg0 : g0.length ≤ 100) (lg1 : g1.length ≤ 100)
    (S : LSt h₀ L al at_ x0 x1 g0 g1 u0 u1 u2 u3 n1 n2 rest s m) (hone : m (Str.ofString "one") = some (.int k0 t0)) (htwo : m (Str.ofString "two") = some (.int k1 t1)) (b0 : 0 ≤ k0) (b0' : k0 < 4) (b1 : 0 ≤ k1) (b1' : k1 < 4) (hrest : ∀ q ∈ rest, q.2.cls ≠ .none)
    (hQ : ∀ s' m', LSt h₀ L al at_ x0 x1 g0 g1 u0 u1 u2 u3 n1 n2 rest s' m' → m' (Str.ofString "one") = some (.int k0 t0) → s'.os = s.os → s'.drawn = s.drawn → Q .next s') :
    wpAny (qM w) (callerA.deeper (lawE L)) (execs innerB (lawE L)) Q E s := by
  obtain ⟨ps, hps, N⟩ := S.N
  have F0 := S.F
  rw [← chain4 htwo hone S.tags S.lines] at F0
  refine execs_innerB ?_
  refine old_src w mean mg mb h₀ L al at_ s _ _ x0 x1 g0 g1 k0 k1 u0 u1 u2 u3 t0 t1 n1 n2 ps rest m B X T a0 p0 l0 b0 b0' F0 N fun v0 e0 h1 tk1 F1 N1 s0 c0 => ?_
  have N1' : News h₀ L h1 ((at_, W.listOf #[.str g0 u2, .str g1 u3] n2) :: (al, W.listOf #[.str x0 u0, .str x1 u1] n1) :: (248, tabObj ps) :: (rest ++ e0)) := fun q hq => N1 q (by
    simp only [List.mem_append, List.mem_cons] at hq ⊢
    rcases hq with h | h | h | h | h <;> simp [h])
  refine new_src w mean mg mb h₀ L al at_ _ _ _ x0 x1 g0 g1 k0 k1 u0 u1 u2 u3 t0 t1 n1 n2 ps (rest ++ e0) m v0 B X T a1 p1 l1 b1 b1' F1 N1' fun v1 e1 h2 tk2 F2 N2 s1 c1 => ?_
  refine told_new F2 N2 fun tl h3 F3 N3 hlt tk3 => ?_
  have hmem : ∀ q ∈ (al, W.listOf #[.str x0 u0, .str x1 u1] n1) :: (rest ++ e0 ++ e1), q ∈ e1 ++ ((at_, W.listOf #[.str g0 u2, .str g1 u3] n2) :: (al, W.listOf #[.str x0 u0, .str x1 u1] n1) :: (248, tabObj ps) :: (rest ++ e0)) := fun q hq => by
    simp only [List.mem_append, List.mem_cons] at hq ⊢
    rcases hq with h | (h | h) | h <;> simp [h]
  have N3' : News h₀ L h3 ((at_, W.listOf #[.str g0 u2, .str g1 u3] n2) :: (tl, W.listOf #[] 0) :: (248, tabObj ps) :: (al, W.listOf #[.str x0 u0, .str x1 u1] n1) :: (rest ++ e0 ++ e1)) := fun q hq => N3 q (by
    simp only [List.mem_append, List.mem_cons] at hq ⊢
    rcases hq with h | h | h | h | (h | h) | h <;> simp [h])
  have n8 := N3' _ (.tail _ (.tail _ (.head _)))
  have ntl := N3' _ (.tail _ (.head _))
  have hcls : ∀ q ∈ (al, W.listOf #[.str x0 u0, .str x1 u1] n1) :: (rest ++ e0 ++ e1), q.2.cls ≠ .none := fun q hq => by
    simp only [List.mem_append, List.mem_cons] at hq
    rcases hq with h | (h | h) | h
    · rw [h]; nofun
    · exact hrest q h
    · rw [c0 q h]; nofun
    · rw [c1 q h]; nofun
  have Nm : News h₀ L h3 ((al, W.listOf #[.str x0 u0, .str x1 u1] n1) :: (rest ++ e0 ++ e1)) := fun q hq => N3' q (.tail _ (.tail _ (.tail _ hq)))
  have S0 : ∀ h', News h₀ L h' ((al, W.listOf #[.str x0 u0, .str x1 u1] n1) :: (rest ++ e0 ++ e1)) → Src h' x0 v0 k0 := fun h' nn => s0 h' fun q hq => nn q (by simp [hq])
  have S1 : ∀ h', News h₀ L h' ((al, W.listOf #[.str x0 u0, .str x1 u1] n1) :: (rest ++ e0 ++ e1)) → Src h' x1 v1 k1 := fun h' nn => s1 h' fun q hq => nn q (by simp [hq])
  have emap : (fun y => if y = Str.ofString "told" then some (.ref tl) else (fun y => if y = Str.ofString "new" then some v1 else (fun y => if y = Str.ofString "old" then some v0 else (fun y => if y = Str.ofString "two" then some (Value.int k1 t1) else if y = Str.ofString "one" then some (.int k0 t0) else if y = Str.ofString "tags" then some (.ref at_) else if y = Str.ofString "lines" then some (.ref al) else m y) y) y) y)
      = tMap tl at_ v0 v1 m := by
    rw [chain4 htwo hone S.tags S.lines]
    show _ = (fun y => if y = Str.ofString "told" then some (.ref tl) else if y = Str.ofString "new" then some v1 else if y = Str.ofString "old" then some v0 else if y = Str.ofString "tags" then some (.ref at_) else m y)
    funext y
    rw [congrFun (chain1 S.tags) y]
  have F3' : Fr h₀ L h3 (tMap tl at_ v0 v1 m) := by rw [← emap]; exact F3
  refine try_all (s := { s with heap := h3, toks := tk3 }) B X T h8 F3' N3' hps (fun q hq => ⟨Nat.ne_of_lt (hlt q (hmem q hq)), fun z => ?_⟩) S0 S1 (fun a e => src_ne (S0 h3 Nm) p0 ntl.1 e) (fun a e => src_ne (S1 h3 Nm) p1 ntl.1 e) a0 a1 y0 y1 l0 l1 fun s4 vs c ps' m4 F4 mm N4 hps' hv hb ho hdr => ?_
  · have z1 := (Nm q hq).1
    rw [z, n8.1] at z1
    exact hcls q hq (by rw [← Option.some.inj z1])
  have t4 : m4 (Str.ofString "told") = some (.ref tl) := (mm _ (by decide)).trans rfl
  have w4 : m4 (Str.ofString "two") = some (.int k1 t1) := (mm _ (by decide)).trans htwo
  have o4 : m4 (Str.ofString "one") = some (.int k0 t0) := (mm _ (by decide)).trans hone
  have g4 : m4 (Str.ofString "tags") = some (.ref at_) := (mm _ (by decide)).trans rfl
  have i4 : m4 (Str.ofString "lines") = some (.ref al) := (mm _ (by decide)).trans S.lines
  have F5 := F4
  rw [← chain5 t4 w4 o4 g4 i4] at F5
  rw [told_due a0 a1 y0 y1] at hv
  have N5 : News h₀ L s4.heap ((tl, W.listOf vs c) :: (at_, W.listOf #[.str g0 u2, .str g1 u3] n2) :: (al, W.listOf #[.str x0 u0, .str x1 u1] n1) :: (248, tabObj ps') :: rest) := fun q hq => N4 q (by
    simp only [List.mem_append, List.mem_cons] at hq ⊢
    rcases hq with h | h | h | h | h <;> simp [h])
  refine if_due w mean mg mb h₀ L tl al at_ s4 _ _ x0 x1 g0 g1 k0 k1 u0 u1 u2 u3 t0 t1 n1 n2 c vs ((248, tabObj ps') :: rest) m4 B X T l0 l1 lg0 lg1 F5 N5 hv fun h6 tk6 F6 N6 => ?_
  rw [chain5 t4 w4 o4 g4 i4] at F6
  exact hQ _ m4 ⟨F6, i4, g4, ⟨ps', hps', fun q hq => N6 q (.tail _ hq)⟩, hb S.bare⟩ o4 ho hdr
end Mine

end
section -- Tn7
open PySem PySem.W PyProof.Rows PySem.Calls
set_option Elab.async false
set_option maxRecDepth 100000
set_option pp.maxSteps 3000
namespace Mine
abbrev riO (x left : Int) : Obj := { cls := .type "range_iterator", dict := none, data := .fields #[rawInt x, rawInt left, rawInt 1], slots := #[] }
section
variable {w : World} {mean : ExcName → Option Value} {mg mb : Str → Option Value} {h₀ : Heap} {L al at_ : Nat} {x0 x1 g0 g1 : Str} {u0 u1 u2 u3 : Tok} {n1 n2 : Nat} {rest : List (Addr × Obj)} {s : Shared} {m : Str → Option Value}
abbrev led (al at_ : Nat) (x0 x1 g0 g1 : Str) (u0 u1 u2 u3 : Tok) (n1 n2 : Nat) (ps : Array Value) (rest : List (Addr × Obj)) : List (Addr × Obj) := (at_, W.listOf #[.str g0 u2, .str g1 u3] n2) :: (al, W.listOf #[.str x0 u0, .str x1 u1] n1) :: (248, tabObj ps) :: rest
/-- objects that the ledger does not name may change, names of the frame may be stored -/
theorem LSt.tk (S : LSt h₀ L al at_ x0 x1 g0 g1 u0 u1 u2 u3 n1 n2 rest s m) (tk : Nat) : LSt h₀ L al at_ x0 x1 g0 g1 u0 u1 u2 u3 n1 n2 rest { s with toks := tk } m := ⟨S.F, S.lines, S.tags, S.N, S.bare⟩
theorem LSt.keeps (S : LSt h₀ L al at_ x0 x1 g0 g1 u0 u1 u2 u3 n1 n2 rest s m) {h' : Heap} {tk : Nat} (k : ∀ b o, s.heap.get? b = some o → h'.get? b = some o) : LSt h₀ L al at_ x0 x1 g0 g1 u0 u1 u2 u3 n1 n2 rest { s with heap := h', toks := tk } m :=
  ⟨S.F.keeps k, S.lines, S.tags, let ⟨ps, a, N⟩ := S.N; ⟨ps, a, fun q hq => ⟨k _ _ (N q hq).1, (N q hq).2⟩⟩, S.bare⟩
theorem LSt.store (S : LSt h₀ L al at_ x0 x1 g0 g1 u0 u1 u2 u3 n1 n2 rest s m) {h' : Heap} {tk : Nat} {x : Str} {v : Value} (hn : h'.Ns L (fun y => if y = x then some v else m y)) (hs : Heap.SameBut L s.heap h') (hx : x ≠ Str.ofString "lines") (hy : x ≠ Str.ofString "tags") :
    LSt h₀ L al at_ x0 x1 g0 g1 u0 u1 u2 u3 n1 n2 rest { s with heap := h', toks := tk } (fun y => if y = x then some v else m y) :=
  ⟨S.F.set hn hs, (if_neg hx.symm).trans S.lines, (if_neg hy.symm).trans S.tags, let ⟨ps, a, N⟩ := S.N; ⟨ps, a, N.set hs⟩, S.bare⟩
/-- the iterator's object changed -/
theorem LSt.iter {I : Nat} {o o' : Obj} (S : LSt h₀ L al at_ x0 x1 g0 g1 u0 u1 u2 u3 n1 n2 ((I, o) :: rest) s m) {h' : Heap} {tk : Nat} (ho : h'.get? I = some o') (kp : ∀ b o, b ≠ I → s.heap.get? b = some o → h'.get? b = some o)
    (hne : ∀ q ∈ rest, q.1 ≠ I) (ha : al ≠ I) (ht : at_ ≠ I) (h8 : 248 ≠ I) : LSt h₀ L al at_ x0 x1 g0 g1 u0 u1 u2 u3 n1 n2 ((I, o') :: rest) { s with heap := h', toks := tk } m := by
  obtain ⟨ps, a, N⟩ := S.N
  have nI := N (I, o) (.tail _ (.tail _ (.tail _ (.head _))))
  refine ⟨⟨S.F.ns.at' fun o e => kp L o nI.2.1.symm e, fun b o e => kp b o (fun q => by rw [q, nI.2.2] at e; cases e) (S.F.keep b o e), S.F.above⟩, S.lines, S.tags, ⟨ps, a, fun q hq => ?_⟩, S.bare⟩
  rcases List.mem_cons.mp hq with rfl | hq
  · have n := N _ (.head _); exact ⟨kp _ _ ht n.1, n.2⟩
  · rcases List.mem_cons.mp hq with rfl | hq
    · have n := N _ (.tail _ (.head _)); exact ⟨kp _ _ ha n.1, n.2⟩
    · rcases List.mem_cons.mp hq with rfl | hq
      · have n := N _ (.tail _ (.tail _ (.head _))); exact ⟨kp _ _ h8 n.1, n.2⟩
      · rcases List.mem_cons.mp hq with rfl | hq
        · exact ⟨ho, nI.2⟩
        · have n := N q (.tail _ (.tail _ (.tail _ (.tail _ hq)))); exact ⟨kp _ _ (hne q hq) n.1, n.2⟩
/-- for x in range(4): a body that keeps the law's state -/
theorem loop4 {x : Str} {px : Pos} {body : List Stmt} {R : Result → Shared → Prop} (Inv : (Str → Option Value) → Prop) (hxl : (lawE L).kindOf x = some .local) (hx : x ≠ Str.ofString "lines") (hy : x ≠ Str.ofString "tags") (hinv : ∀ m v, Inv m → Inv (fun y => if y = x then some v else m y))
    {I : Nat} (hne : ∀ q ∈ rest, q.1 ≠ I) (ha : al ≠ I) (ht : at_ ≠ I) (h8 : 248 ≠ I)
    (hbody : ∀ (i : Int) t s m o, 0 ≤ i → i < 4 → o.cls ≠ .none → LSt h₀ L al at_ x0 x1 g0 g1 u0 u1 u2 u3 n1 n2 ((I, o) :: rest) s m → m x = some (.int i t) → Inv m →
      wpAny (qM w) (callerA.deeper (lawE L)) (execs body (lawE L)) (fun f s' => f = .next ∧ (∃ m', LSt h₀ L al at_ x0 x1 g0 g1 u0 u1 u2 u3 n1 n2 ((I, o) :: rest) s' m' ∧ Inv m') ∧ s'.os = s.os ∧ s'.drawn = s.drawn) (fun _ _ => False) s)
    (S : LSt h₀ L al at_ x0 x1 g0 g1 u0 u1 u2 u3 n1 n2 ((I, riO 0 4) :: rest) s m) (hI : Inv m)
    (hR : ∀ s' m', LSt h₀ L al at_ x0 x1 g0 g1 u0 u1 u2 u3 n1 n2 rest s' m' → Inv m' → s'.os = s.os → s'.drawn = s.drawn → R (.ok .next) s') :
    codeAny (qM w) (callerA.deeper (lawE L)) (.forLoop (.Name x px) (.ref I) body [] (lawE L)) R s := by
  refine codeAny_forLoop (fun n s' => ∃ i : Nat, i + n = 4 ∧ (∃ m', LSt h₀ L al at_ x0 x1 g0 g1 u0 u1 u2 u3 n1 n2 ((I, riO i (4 - i)) :: rest) s' m' ∧ Inv m') ∧ s'.os = s.os ∧ s'.drawn = s.drawn) ?_ 4 ⟨0, rfl, ⟨m, by simpa using S, hI⟩, rfl, rfl⟩
  rintro n s1 ⟨i, hi, ⟨m1, S1, I1⟩, ho, hd⟩
  obtain ⟨ps, hps, N1⟩ := S1.N
  have nI := N1 (I, riO i (4 - i)) (.tail _ (.tail _ (.tail _ (.head _))))
  cases n with
  | zero =>
    refine wpAny_pyNext_range_end rfl nI.1 (by omega) fun h' hx' => wpAny_execs_nil ?_
    refine hR _ m1 ⟨⟨S1.F.ns.at' fun o e => hx' L o nI.2.1.symm e, fun b o e => hx' b o (fun q => by rw [q, nI.2.2] at e; cases e) (S1.F.keep b o e), S1.F.above⟩, S1.lines, S1.tags, ⟨ps, hps, fun q hq => ?_⟩, S1.bare⟩ I1 ho hd
    rcases List.mem_cons.mp hq with rfl | hq
    · have n := N1 _ (.head _); exact ⟨hx' _ _ ht n.1, n.2⟩
    · rcases List.mem_cons.mp hq with rfl | hq
      · have n := N1 _ (.tail _ (.head _)); exact ⟨hx' _ _ ha n.1, n.2⟩
      · rcases List.mem_cons.mp hq with rfl | hq
        · have n := N1 _ (.tail _ (.tail _ (.head _))); exact ⟨hx' _ _ h8 n.1, n.2⟩
        · have n := N1 q (.tail _ (.tail _ (.tail _ (.tail _ hq)))); exact ⟨hx' _ _ (hne q hq) n.1, n.2⟩
  | succ n =>
    refine wpAny_pyNext_range_item nI.1 (by omega) fun h' hit hs => ?_
    have S2 := S1.iter (tk := s1.toks + 1) hit (fun b o b1 e => (hs.2 b b1).trans e) hne ha ht h8
    refine wpAny_assign_Name (wpAny_storeName_local hxl S2.F.ns (fun h2 hn2 hs2 => ?_) rfl)
    have S3 := S2.store (tk := s1.toks + 1) hn2 hs2 hx hy
    refine wpAny_mono (hbody i s1.toks _ _ (riO ((i : Int) + 1) (4 - (i : Int) - 1)) (by omega) (by omega) (by nofun) (S3.tk _) (if_pos rfl) (hinv _ _ I1)) (fun f s4 h4 => ?_) fun _ _ z => z.elim
    obtain ⟨rfl, ⟨m4, S4, I4⟩, ho4, hd4⟩ := h4
    refine ⟨n, Nat.lt_succ_self n, i + 1, by omega, ⟨m4, ?_, I4⟩, ho4.trans ho, hd4.trans hd⟩
    have e : riO ((i : Int) + 1) (4 - (i : Int) - 1) = riO ((i + 1 : Nat) : Int) (4 - ((i + 1 : Nat) : Int)) := by
      have : (4 - (i : Int) - 1) = 4 - ((i + 1 : Nat) : Int) := by omega
      rw [this]; rfl
    rw [← e]; exact S4
end
end Mine

end
section -- Tn8
open PySem PySem.W PyProof.Rows PySem.Calls
set_option Elab.async false
set_option maxRecDepth 100000
set_option pp.maxSteps 3000
namespace Mine
noncomputable def rngE : Expr := forI (fb_11 pw0)[3]?
noncomputable def rngE2 : Expr := forI (forB (fb_11 pw0)[3]?)[0]?
set_option maxHeartbeats 4000000 in
theorem eval_rng (w : World) (mean : ExcName → Option Value) (mg mb : Str → Option Value) (h₀ : Heap) (L : Addr) (s : Shared) (Q : Value → Shared → Prop) (E : Value → Shared → Prop) (m : Str → Option Value) (news : List (Addr × Obj))
    (B : Below callerA h₀ [] h₀) (X : (K w.params).In h₀) (T : Top (q pw0) loose0 mean mg mb h₀) (F : Fr h₀ L s.heap m) (N : News h₀ L s.heap news)
    (hQ : ∀ tk t, wpAny (model PySem.Challenge.rw_dm0062_06.row.prog w) (callerA.deeper (lawE L)) (call (.type "range") [.int 4 t]) Q E { s with toks := tk }) :
    wpAny (model PySem.Challenge.rw_dm0062_06.row.prog w) (callerA.deeper (lawE L)) (eval rngE (lawE L)) Q E s := by
  revert X
  k_fill
  intro X
  show wpAny _ _ (eval (.Call _ _ _ _) _) _ _ _
  repeat' (first | (fail_if_success (with_reducible show wpAny _ _ (call (Value.type _) _) _ _ _)); first | (k_unfold; (try dsimp only)) | walk1 | (dsimp only; walk1) | fail "no step")
  exact hQ _ _
set_option maxHeartbeats 4000000 in
theorem eval_rng2 (w : World) (mean : ExcName → Option Value) (mg mb : Str → Option Value) (h₀ : Heap) (L : Addr) (s : Shared) (Q : Value → Shared → Prop) (E : Value → Shared → Prop) (m : Str → Option Value) (news : List (Addr × Obj))
    (B : Below callerA h₀ [] h₀) (X : (K w.params).In h₀) (T : Top (q pw0) loose0 mean mg mb h₀) (F : Fr h₀ L s.heap m) (N : News h₀ L s.heap news)
    (hQ : ∀ tk t, wpAny (model PySem.Challenge.rw_dm0062_06.row.prog w) (callerA.deeper (lawE L)) (call (.type "range") [.int 4 t]) Q E { s with toks := tk }) :
    wpAny (model PySem.Challenge.rw_dm0062_06.row.prog w) (callerA.deeper (lawE L)) (eval rngE2 (lawE L)) Q E s := by
  revert X
  k_fill
  intro X
  show wpAny _ _ (eval (.Call _ _ _ _) _) _ _ _
  repeat' (first | (fail_if_success (with_reducible show wpAny _ _ (call (Value.type _) _) _ _ _)); first | (k_unfold; (try dsimp only)) | walk1 | (dsimp only; walk1) | fail "no step")
  exact hQ _ _
section
variable {w : World} {mean : ExcName → Option Value} {mg mb : Str → Option Value} {h₀ : Heap} {L al at_ : Nat} {x0 x1 g0 g1 : Str} {u0 u1 u2 u3 : Tok} {n1 n2 : Nat} {rest : List (Addr × Obj)} {s : Shared} {m : Str → Option Value}
/-- range(4) and its iterator -/
theorem rng_iter {Q : Value → Shared → Prop} {E : Value → Shared → Prop} {t : Tok} {tk : Nat} {A : Around} (S : LSt h₀ L al at_ x0 x1 g0 g1 u0 u1 u2 u3 n1 n2 rest s m)
    (hQ : ∀ (I : Nat) h' tk, (∀ q ∈ rest, q.1 ≠ I) → al ≠ I → at_ ≠ I → 248 ≠ I → LSt h₀ L al at_ x0 x1 g0 g1 u0 u1 u2 u3 n1 n2 ((I, riO 0 4) :: rest) { s with heap := h', toks := tk } m → Q (.ref I) { s with heap := h', toks := tk }) :
    wpAny (qM w) A (call (.type "range") [.int 4 t]) (fun x s₁ => wpAny (qM w) A (pyIter x) Q E s₁) E { s with toks := tk } := by
  refine call_range_1 ?_
  refine wpAny_pyIter_range (Heap.get?_push_size _ rfl) (by decide) ?_
  obtain ⟨ps, hps, N⟩ := S.N
  have kp : ∀ b o, s.heap.get? b = some o → ((s.heap.push { cls := .type "range", data := .fields #[.int 0 tk, .int 4 t, .int 1 (tk + 1)] }).push (riO 0 4)).get? b = some o := fun b o e => Heap.get?_push_of_some _ (Heap.get?_push_of_some _ e)
  have big : ∀ {b : Nat} {o : Obj}, s.heap.get? b = some o → b ≠ (s.heap.push { cls := .type "range", data := .fields #[.int 0 tk, .int 4 t, .int 1 (tk + 1)] }).objs.size := fun e => Nat.ne_of_lt (by rw [Heap.size_push]; exact Nat.lt_succ_of_lt (Heap.lt_size e))
  have S2 := S.keeps (tk := tk + 1 + 1) kp
  have hL : L < s.heap.objs.size := S.F.ns.lt
  refine hQ _ _ _ (fun q hq => big (N q (.tail _ (.tail _ (.tail _ hq)))).1) (big (N _ (.tail _ (.head _))).1) (big (N _ (.head _)).1) (big (N _ (.tail _ (.tail _ (.head _)))).1) ⟨S2.F, S2.lines, S2.tags, ⟨ps, hps, fun q hq => ?_⟩, S.bare⟩
  have old : ∀ q ∈ led al at_ x0 x1 g0 g1 u0 u1 u2 u3 n1 n2 ps rest, ((s.heap.push { cls := .type "range", data := .fields #[.int 0 tk, .int 4 t, .int 1 (tk + 1)] }).push (riO 0 4)).get? q.1 = some q.2 ∧ q.1 ≠ L ∧ h₀.get? q.1 = none := fun q hq => ⟨kp _ _ (N q hq).1, (N q hq).2⟩
  have hsz : (s.heap.push { cls := .type "range", data := .fields #[.int 0 tk, .int 4 t, .int 1 (tk + 1)] }).objs.size = s.heap.objs.size + 1 := Heap.size_push ..
  rcases List.mem_cons.mp hq with rfl | hq
  · exact old _ (.head _)
  · rcases List.mem_cons.mp hq with rfl | hq
    · exact old _ (.tail _ (.head _))
    · rcases List.mem_cons.mp hq with rfl | hq
      · exact old _ (.tail _ (.tail _ (.head _)))
      · rcases List.mem_cons.mp hq with rfl | hq
        · refine ⟨Heap.get?_push_size _ rfl, ?_, Heap.get?_none_of_le ?_⟩
          · show (s.heap.push _).objs.size ≠ L
            rw [hsz]; exact Nat.ne_of_gt (Nat.lt_succ_of_lt hL)
          · show h₀.objs.size ≤ (s.heap.push _).objs.size
            rw [hsz]; exact Nat.le_trans S.F.above (Nat.le_of_lt (Nat.lt_succ_of_lt hL))
        · exact old _ (.tail _ (.tail _ (.tail _ hq)))
set_option maxHeartbeats 4000000 in
theorem loops {Q : Flow → Shared → Prop} {E : Value → Shared → Prop} (B : Below callerA h₀ [] h₀) (X : (K w.params).In h₀) (T : Top (q pw0) loose0 mean mg mb h₀) (h8 : h₀.get? 248 = none) (a0 : Alpha x0) (a1 : Alpha x1) (y0 : TagA g0) (y1 : TagA g1) (p0 : 1 ≤ x0.length) (p1 : 1 ≤ x1.length) (l0 : x0.length ≤ 100) (l1 : x1.length ≤ 100) (lg0 : g0.length ≤ 100) (lg1 : g1.length ≤ 100)
    (S : LSt h₀ L al at_ x0 x1 g0 g1 u0 u1 u2 u3 n1 n2 [] s m) (hQ : ∀ s' m', LSt h₀ L al at_ x0 x1 g0 g1 u0 u1 u2 u3 n1 n2 [] s' m' → s'.os = s.os → s'.drawn = s.drawn → Q .next s') :
    wpAny (qM w) (callerA.deeper (lawE L)) (exec ((fb_11 pw0).getD 3 (.Pass default)) (lawE L)) Q E s := by
  show wpAny _ _ (exec (.For (.Name (Str.ofString "one") _) rngE [.For (.Name (Str.ofString "two") _) rngE2 innerB [] _] [] _) _) _ _ _
  obtain ⟨ps, hps, N⟩ := S.N
  refine wpAny_For (eval_rng w mean mg mb h₀ L s _ _ m _ B X T S.F N fun tk t => rng_iter S fun I h' tk' i1 i2 i3 i4 S1 => ?_) (fun _ => rfl)
  refine loop4 (fun _ => True) rfl (by decide) (by decide) (fun _ _ _ => trivial) i1 i2 i3 i4 (fun i ti s2 m2 o b1 b2 ho S2 h1 _ => ?_) S1 trivial fun s' m' S' _ e1 e2 => hQ s' m' S' e1 e2
  refine wpAny_execs_cons ?_
  obtain ⟨ps2, hps2, N2⟩ := S2.N
  refine wpAny_For (eval_rng2 w mean mg mb h₀ L s2 _ _ m2 _ B X T S2.F N2 fun tk t => rng_iter S2 fun J h3 tk3 j1 j2 j3 j4 S3 => ?_) (fun _ => rfl)
  refine loop4 (fun m => m (Str.ofString "one") = some (.int i ti)) rfl (by decide) (by decide) (fun m v hm => (if_neg (by decide)).trans hm) j1 j2 j3 j4 (fun k tk4 s5 m5 o5 c1 c2 ho5 S5 h5 hi5 => ?_) S3 h1 fun s' m' S' _ e1 e2 => wpAny_execs_nil ⟨rfl, ⟨m', S', trivial⟩, e1, e2⟩
  refine turn B X T h8 a0 a1 y0 y1 p0 p1 l0 l1 lg0 lg1 S5 hi5 h5 b1 b2 c1 c2 (fun q hq => ?_) fun s' m' S' h' e1 e2 => ⟨rfl, ⟨m', S', h'⟩, e1, e2⟩
  rcases List.mem_cons.mp hq with rfl | hq
  · exact ho5
  · rw [List.mem_singleton.mp hq]; exact ho
end
end Mine

end
section -- U1
open PySem PySem.W PyProof.Rows PySem.Calls
set_option Elab.async false
set_option maxRecDepth 100000
set_option pp.maxSteps 3000
namespace Mine
noncomputable def b1B : List Stmt := forB (fb_11 pw0)[2]?
def StepL (x X : Str) : Prop := x.length ≤ X.length ∧ X.length ≤ x.length + 1 ∧ (Alpha x → Alpha X)
def StepT (x X : Str) : Prop := X.length ≤ x.length + 1 ∧ (TagA x → TagA X)
theorem StepL.refl (x : Str) : StepL x x := ⟨Nat.le_refl _, Nat.le_succ _, fun h => h⟩
theorem StepT.refl (x : Str) : StepT x x := ⟨Nat.le_succ _, fun h => h⟩
theorem StepL.add {x c : Str} (hc : c.length = 1) (h : ∀ z ∈ c.cps.toList, z ∈ alpha) : StepL x (x ++ c) := by
  refine ⟨by rw [strLen_append]; omega, by rw [strLen_append]; omega, fun hx z hz => ?_⟩
  have e : (x ++ c).cps = x.cps ++ c.cps := rfl
  rw [e, Array.toList_append] at hz
  exact (List.mem_append.mp hz).elim (hx z) (h z)
theorem StepT.add {x c : Str} (hc : c.length = 1) (h : ∀ z ∈ c.cps.toList, z ∈ tagsA) : StepT x (x ++ c) := by
  refine ⟨by rw [strLen_append]; omega, fun hx z hz => ?_⟩
  have e : (x ++ c).cps = x.cps ++ c.cps := rfl
  rw [e, Array.toList_append] at hz
  exact (List.mem_append.mp hz).elim (hx z) (h z)
theorem ten {j : Int} (h0 : 0 ≤ j) (h1 : j < 10) : j = 0 ∨ j = 1 ∨ j = 2 ∨ j = 3 ∨ j = 4 ∨ j = 5 ∨ j = 6 ∨ j = 7 ∨ j = 8 ∨ j = 9 := by omega
theorem fm10 (n : Int) : 0 ≤ n.fmod 10 ∧ n.fmod 10 < 10 := ⟨Int.fmod_nonneg_of_pos n (b := 10) (by decide), Int.fmod_lt_of_pos n (b := 10) (by decide)⟩
theorem line_item (n : Int) (x : Str) : StepL x (x ++ Txt.item (Str.ofString "a\t b\n") ((n.fmod 10).fdiv 2)) := by
  refine .add rfl ?_
  obtain ⟨h0, h1⟩ := fm10 n
  generalize n.fmod 10 = j at h0 h1 ⊢
  rcases ten h0 h1 with rfl | rfl | rfl | rfl | rfl | rfl | rfl | rfl | rfl | rfl <;> decide +kernel
theorem tag_item {j : Int} (x : Str) (h0 : 0 ≤ j) (h1 : j < 5) : StepT x (x ++ Txt.item (Str.ofString " ^-+ ") j) := by
  refine .add rfl ?_
  rcases ten h0 (by omega) with rfl | rfl | rfl | rfl | rfl | rfl | rfl | rfl | rfl | rfl <;> first | omega | decide +kernel
theorem tag_item2 {j : Int} (x : Str) (h0 : 7 < j) (h1 : j < 10) : StepT x (x ++ Txt.item (Str.ofString " ^") (j - 8)) := by
  refine .add rfl ?_
  rcases ten (by omega) h1 with rfl | rfl | rfl | rfl | rfl | rfl | rfl | rfl | rfl | rfl <;> first | omega | decide +kernel
set_option maxHeartbeats 1500000 in
theorem turn1 (w : World) (mean : ExcName → Option Value) (mg mb : Str → Option Value) (h₀ : Heap) (L al at_ : Addr) (s : Shared) (Q : Flow → Shared → Prop) (E : Value → Shared → Prop) (x0 x1 g0 g1 : Str) (n : Int) (u0 u1 u2 u3 t : Tok) (n1 n2 : Nat) (rest : List (Addr × Obj)) (m : Str → Option Value)
    (B : Below callerA h₀ [] h₀) (X : (K w.params).In h₀) (T : Top (q pw0) loose0 mean mg mb h₀) (lx0 : x0.length ≤ 90) (lx1 : x1.length ≤ 90) (lg0 : g0.length ≤ 90) (lg1 : g1.length ≤ 90)
    (F : Fr h₀ L s.heap (fun y => if y = Str.ofString "x" then some (.int n t) else if y = Str.ofString "tags" then some (.ref at_) else if y = Str.ofString "lines" then some (.ref al) else m y))
    (N : News h₀ L s.heap ((at_, W.listOf #[.str g0 u2, .str g1 u3] n2) :: (al, W.listOf #[.str x0 u0, .str x1 u1] n1) :: rest)) (hta : at_ ≠ al) (hra : ∀ p ∈ rest, p.1 ≠ al)
    (hrt' : ∀ o, ∀ p ∈ (al, o) :: rest, p.1 ≠ at_)
    (hQ : ∀ X0 X1 G0 G1 U0 U1 U2 U3 h' tk M', StepL x0 X0 → StepL x1 X1 → StepT g0 G0 → StepT g1 G1 → Fr h₀ L h' M' → M' (Str.ofString "tags") = some (.ref at_) → M' (Str.ofString "lines") = some (.ref al) →
      News h₀ L h' ((at_, W.listOf #[.str G0 U2, .str G1 U3] n2) :: (al, W.listOf #[.str X0 U0, .str X1 U1] n1) :: rest) → Q .next { s with heap := h', toks := tk }) :
    wpAny (model PySem.Challenge.rw_dm0062_06.row.prog w) (callerA.deeper (lawE L)) (execs b1B (lawE L)) Q E s := by
  revert X
  k_fill
  intro X
  show wpAny _ _ (execs (_ :: _) _) _ _ _
  have hs : n.fmod 2 = 0 ∨ n.fmod 2 = 1 := by have := Int.fmod_nonneg_of_pos n (b := 2) (by decide); have := Int.fmod_lt_of_pos n (b := 2) (by decide); omega
  repeat' (first | (fail_if_success (with_reducible show wpAny _ _ (storeName _ _ _) _ _ _)); first | (k_unfold; (try dsimp only)) | walk1 | (dsimp only; walk1) | fail "no step")
  rcases hs with hs | hs
  all_goals rw [hs]
  all_goals repeat' (first
    | ((with_reducible show wpAny _ _ (setItem (Value.ref al) _ _) _ _ _); (refine' ki_set ?k1 ?k2 ?k3 ?k4 ?k5 (Upd.tail (p := (at_, _)) hta (Upd.head hra)) ?_); (case k1 => k_asm); (case k2 => k_asm); (case k3 => decide); (case k4 => decide); (case k5 => rfl); intro h' F' N')
    | ((with_reducible show wpAny _ _ (setItem (Value.ref at_) _ _) _ _ _); (refine' ki_set ?k1 ?k2 ?k3 ?k4 ?k5 (Upd.head (hrt' _)) ?_); (case k1 => k_asm); (case k2 => k_asm); (case k3 => decide); (case k4 => decide); (case k5 => rfl); intro h' F' N')
    | (k_unfold; (try dsimp only)) | walk1 | (dsimp only; walk1) | fail "no step")
  all_goals (have hk := fm10 (n.fdiv 10))
  all_goals (rename Fr h₀ L _ _ => gF; rename News h₀ L _ _ => gN)
  all_goals (refine hQ _ _ _ _ _ _ _ _ _ _ _ ?_ ?_ ?_ ?_ gF rfl rfl gN)
  all_goals first
    | (with_reducible exact StepL.refl _)
    | (with_reducible exact StepT.refl _)
    | (with_reducible exact line_item n _)
    | (with_reducible exact tag_item _ hk.1 (by assumption))
    | (with_reducible exact tag_item2 _ (by assumption) hk.2)
    | (with_reducible refine tag_item2 _ ?_ hk.2; omega)
end Mine

end
section -- U2
open PySem PySem.W PyProof.Rows PySem.Calls
set_option Elab.async false
set_option maxRecDepth 100000
namespace Mine
theorem K_no8 (P : Params) : (K P).lookup 248 = none := by rfl
theorem KF_eq (P : Params) : KF P = (248, o248_0 pw0 P) :: K P := by rfl
section
variable {P : Params} {h₁ : Heap} {mg mb : Str → Option Value} {mean : ExcName → Option Value}
theorem kf_tab (X : (KF P).In h₁) : h₁.get? 248 = some (tabObj #[]) := X 248 _ rfl
theorem kf_K (X : (KF P).In h₁) : (K P).In h₁ := fun a o e => X a o (by
  rw [KF_eq, List.lookup_cons]
  have : (a == 248) = false := by
    cases q : (a == 248) with
    | false => rfl
    | true => rw [eq_of_beq q, K_no8] at e; cases e
  rw [this]; exact e)
theorem kf_K0 (X : (KF P).In h₁) : (K P).In (hideAll h₁ [248]) := fun a o e => hideAll_get _ (kf_K X a o e) fun hm => by
  have q : a = 248 := List.mem_singleton.mp hm
  rw [q, K_no8] at e; cases e
theorem hid_get {b : Addr} {o : Obj} (ht : h₁.get? 248 = some (tabObj #[])) (e : h₁.get? b = some o) (hn : o ≠ tabObj #[]) : (hideAll h₁ [248]).get? b = some o :=
  hideAll_get _ e fun hm => by
    rw [List.mem_singleton.mp hm, ht] at e
    exact hn (Option.some.inj e).symm
theorem hid_ns {a : Addr} {mm : Str → Option Value} (ht : h₁.get? 248 = some (tabObj #[])) (x : h₁.Ns a mm) : (hideAll h₁ [248]).Ns a mm :=
  let ⟨o, es, ep, e, hd, r⟩ := x; ⟨o, es, ep, hid_get ht e (fun q => by rw [q] at hd; cases hd), hd, r⟩
theorem hid_seer (ht : h₁.get? 248 = some (tabObj #[])) (x : h₁.NoSeer) : (hideAll h₁ [248]).NoSeer where
  statics := let ⟨mc, a, b⟩ := x.statics; ⟨mc, hid_ns ht a, b⟩
  mods := let ⟨mc, a, b⟩ := x.mods; ⟨mc, hid_ns ht a, b⟩
  imp := let ⟨mc, a, b⟩ := x.imp; ⟨mc, hid_ns ht a, b⟩
  main := let ⟨mg, bm, ob, a, b, c, d, e⟩ := x.main; ⟨mg, bm, ob, hid_ns ht a, b, hid_get ht c (fun q => by rw [q] at d; cases d), d, e⟩
theorem owns_nil : ownsOf (q pw0) = [] := by rfl
theorem recs_one : (recsOf (q pw0)).map (·.name) = [Str.ofString "law"] := by rfl
theorem law_tab (X : (K P).In h₁) (G : h₁.Ns mainGlobals mg) {a c Pt : Addr} {o : Obj} {fd : FuncData} (hm : mg (Str.ofString "law") = some (.ref a)) (ho : h₁.get? a = some o) (hd : o.data = .func fd) (hc : fd.code = .ref c) (ht : h₁.TableAt c Pt #[]) : Pt = 331 := by
  have e1 : mg (Str.ofString "law") = some (.ref 336) := mg_of X G (by rfl)
  rw [hm] at e1; cases e1
  rw [X 336 _ rfl] at ho; cases ho; cases hd; cases hc
  obtain ⟨⟨oc, vs, g1, g2, g3, g4⟩, _⟩ := ht
  rw [X 335 _ rfl] at g1; cases g1; cases g3; cases g4
  rfl
theorem top_hide (X : (KF P).In h₁) (T : Top (q pw0) loose0 mean mg mb h₁) : Top (q pw0) loose0 mean mg mb (hideAll h₁ [248]) := by
  have ht := kf_tab X
  refine ⟨hid_ns ht T.g, hid_ns ht T.b, let ⟨mc, a, r⟩ := T.nolimit; ⟨mc, hid_ns ht a, r⟩, let ⟨mc, a, r⟩ := T.nodigits; ⟨mc, hid_ns ht a, r⟩, fun d hd => ?_, fun o ho => ?_, T.const, T.free, T.builtins, fun d hd => ?_,
    let ⟨bm, ob, a1, a2, a3, a4, r⟩ := T.bmain; ⟨bm, ob, a1, a2, hid_get ht a3 (fun q => by rw [q] at a4; cases a4), a4, r⟩, fun e => ?_⟩
  · obtain ⟨a, o, pm, code, doc, h1, h2, h3, c, oc, vs, t, e1, e2, e3, e4⟩ := T.fn d hd
    refine ⟨a, o, pm, code, doc, h1, hid_get ht h2 (fun q => by rw [q] at h3; cases h3), h3, c, oc, vs, t, e1, hid_get ht e2 (fun q => ?_), e3, e4⟩
    rw [q] at e3; cases e3; cases e4
  · rw [owns_nil] at ho; cases ho
  · obtain ⟨a, o, fd, c, Pt, h1, h2, h3, h4, h5, h6⟩ := T.tab d hd
    have hn : d.name = Str.ofString "law" := by
      have hm : d.name ∈ (recsOf (q pw0)).map (·.name) := List.mem_map_of_mem hd
      rw [recs_one] at hm; exact List.mem_singleton.mp hm
    have hP : Pt = 331 := law_tab (kf_K X) T.g (hn ▸ h1) h2 h3 h4 h6
    have C := CodeHd.of h5 h6
    obtain ⟨o', vs, file, tf, flags, tg, inF, text, tt, e1, r1, r2, r3, r4, r5, r6, r7, r8, hne⟩ := C
    have C' : CodeHd (hideAll h₁ [248]) c Pt := ⟨o', vs, file, tf, flags, tg, inF, text, tt, hid_get ht e1 (fun q => by rw [q] at r1; cases r1), r1, r2, r3, r4, r5, r6, r7, r8, hne⟩
    have hp : (hideAll h₁ [248]).get? Pt = some (tabObj #[]) := hideAll_get _ h6.2 fun hm => by
      have : Pt = 248 := List.mem_singleton.mp hm
      rw [hP] at this; cases this
    exact ⟨a, o, fd, c, Pt, h1, hid_get ht h2 (fun q => by rw [q] at h3; cases h3), h3, h4, C'.code hp trivial, C'.tab hp⟩
  · exact hid_seer ht (T.seer e)
end
end Mine

end
section -- U3
open PySem PySem.W PyProof.Rows PySem.Calls
set_option Elab.async false
set_option maxRecDepth 100000
set_option pp.maxSteps 3000
namespace Mine
section
variable {w : World} {mean : ExcName → Option Value} {mg mb : Str → Option Value} {h₀ : Heap} {L al at_ I sl : Nat}
theorem map_tl {m : Str → Option Value} {v : Value} (hl : m (Str.ofString "lines") = some (.ref al)) (ht : m (Str.ofString "tags") = some (.ref at_)) :
    (fun y => if y = Str.ofString "x" then some v else m y) = (fun y => if y = Str.ofString "x" then some v else if y = Str.ofString "tags" then some (.ref at_) else if y = Str.ofString "lines" then some (.ref al) else m y) := by
  funext y
  by_cases h1 : y = Str.ofString "x"
  · simp only [if_pos h1]
  · by_cases h2 : y = Str.ofString "tags"
    · simp only [if_neg h1, if_pos h2]; rw [h2, ht]
    · by_cases h3 : y = Str.ofString "lines"
      · simp only [if_neg h1, if_neg h2, if_pos h3]; rw [h3, hl]
      · simp only [if_neg h1, if_neg h2, if_neg h3]
/-- what loop 1 keeps -/
structure Sc (h₀ : Heap) (L al at_ I sl : Nat) (items : List Value) (rest : List (Addr × Obj)) (c i : Nat) (h : Heap) : Prop where
  ex : ∃ x0 x1 g0 g1 u0 u1 u2 u3 n1 n2 o ol m, Fr h₀ L h m ∧ m (Str.ofString "lines") = some (.ref al) ∧ m (Str.ofString "tags") = some (.ref at_) ∧
    News h₀ L h ((at_, W.listOf #[.str g0 u2, .str g1 u3] n2) :: (al, W.listOf #[.str x0 u0, .str x1 u1] n1) :: (I, o) :: (sl, ol) :: rest) ∧
    (o.cls = .type "list_iterator" ∧ o.data = .fields #[.ref sl, .int i 0]) ∧ (ol.cls = .type "list" ∧ ∃ n, ol.data = .seq items.toArray n) ∧
    Alpha x0 ∧ Alpha x1 ∧ TagA g0 ∧ TagA g1 ∧ 1 ≤ x0.length ∧ 1 ≤ x1.length ∧ x0.length ≤ c ∧ x1.length ≤ c ∧ g0.length ≤ c ∧ g1.length ≤ c
theorem upd_iter {h h' : Heap} {m : Str → Option Value} {o o' : Obj} {A B rest : List (Addr × Obj)} (F : Fr h₀ L h m) (N : News h₀ L h (A ++ (I, o) :: B)) (ho : h'.get? I = some o') (kp : ∀ b o, b ≠ I → h.get? b = some o → h'.get? b = some o)
    (hA : ∀ p ∈ A, p.1 ≠ I) (hB : ∀ p ∈ B, p.1 ≠ I) : Fr h₀ L h' m ∧ News h₀ L h' (A ++ (I, o') :: B) := by
  have nI := N (I, o) (List.mem_append_right _ (.head _))
  refine ⟨⟨F.ns.at' fun o e => kp L o nI.2.1.symm e, fun b o e => kp b o (fun q => by rw [q, nI.2.2] at e; cases e) (F.keep b o e), F.above⟩, fun q hq => ?_⟩
  rcases List.mem_append.mp hq with hq | hq
  · have n := N q (List.mem_append_left _ hq); exact ⟨kp _ _ (hA q hq) n.1, n.2⟩
  · rcases List.mem_cons.mp hq with rfl | hq
    · exact ⟨ho, nI.2⟩
    · have n := N q (List.mem_append_right _ (.tail _ hq)); exact ⟨kp _ _ (hB q hq) n.1, n.2⟩
set_option maxHeartbeats 1000000 in
theorem loop1 {px : Pos} {R : Result → Shared → Prop} {s : Shared} {items : List Value} {rest : List (Addr × Obj)} (B : Below callerA h₀ [] h₀) (X : (K w.params).In h₀) (T : Top (q pw0) loose0 mean mg mb h₀)
    (hlen : items.length ≤ 30) (hall : ∀ v ∈ items, ∃ n t, v = .int n t)
    (d1 : at_ ≠ al) (d2 : I ≠ al) (d3 : I ≠ at_) (d4 : sl ≠ al) (d5 : sl ≠ at_) (d6 : sl ≠ I) (r1 : ∀ p ∈ rest, p.1 ≠ al) (r2 : ∀ p ∈ rest, p.1 ≠ at_) (r3 : ∀ p ∈ rest, p.1 ≠ I)
    (S : Sc h₀ L al at_ I sl items rest 3 0 s.heap)
    (hR : ∀ h' tk, (∃ x0 x1 g0 g1 u0 u1 u2 u3 n1 n2 m, Fr h₀ L h' m ∧ m (Str.ofString "lines") = some (.ref al) ∧ m (Str.ofString "tags") = some (.ref at_) ∧
      News h₀ L h' ((at_, W.listOf #[.str g0 u2, .str g1 u3] n2) :: (al, W.listOf #[.str x0 u0, .str x1 u1] n1) :: rest) ∧
      Alpha x0 ∧ Alpha x1 ∧ TagA g0 ∧ TagA g1 ∧ 1 ≤ x0.length ∧ 1 ≤ x1.length ∧ x0.length ≤ 100 ∧ x1.length ≤ 100 ∧ g0.length ≤ 100 ∧ g1.length ≤ 100) → R (.ok .next) { s with heap := h', toks := tk }) :
    codeAny (qM w) (callerA.deeper (lawE L)) (.forLoop (.Name (Str.ofString "x") px) (.ref I) b1B [] (lawE L)) R s := by
  refine codeAny_forLoop (fun n s' => ∃ i h' tk, s' = { s with heap := h', toks := tk } ∧ i + n = items.length ∧ Sc h₀ L al at_ I sl items rest (3 + i) i h') ?_ items.length ⟨0, s.heap, s.toks, rfl, Nat.zero_add _, S⟩
  rintro n _ ⟨i, h1, tk, rfl, hi, ⟨x0, x1, g0, g1, u0, u1, u2, u3, n1, n2, o, ol, m, F, hl, ht, N, ⟨ho1, ho2⟩, hol, a0, a1, b0, b1, p0, p1, l0, l1, k0, k1⟩⟩
  have nI := N (I, o) (.tail _ (.tail _ (.head _)))
  have nS := N (sl, ol) (.tail _ (.tail _ (.tail _ (.head _))))
  have hit : h1.IsListIter I sl i := ⟨o, nI.1, ho1, ho2⟩
  have hls : h1.IsList sl items.toArray := ⟨ol, nS.1, hol⟩
  cases n with
  | zero =>
    refine wpAny_pyNext_list_end rfl hit hls (by simp; omega) fun h' hx' => wpAny_execs_nil ?_
    refine hR h' tk ⟨x0, x1, g0, g1, u0, u1, u2, u3, n1, n2, m, ⟨F.ns.at' fun o e => hx' L o nI.2.1.symm e, fun b o e => hx' b o (fun q => by rw [q, nI.2.2] at e; cases e) (F.keep b o e), F.above⟩, hl, ht, fun q hq => ?_, a0, a1, b0, b1, p0, p1, by omega, by omega, by omega, by omega⟩
    rcases List.mem_cons.mp hq with rfl | hq
    · have n := N _ (.head _); exact ⟨hx' _ _ d3.symm n.1, n.2⟩
    · rcases List.mem_cons.mp hq with rfl | hq
      · have n := N _ (.tail _ (.head _)); exact ⟨hx' _ _ d2.symm n.1, n.2⟩
      · have n := N q (.tail _ (.tail _ (.tail _ (.tail _ hq)))); exact ⟨hx' _ _ (r3 q hq) n.1, n.2⟩
  | succ n =>
    have hlt : i < items.length := by omega
    obtain ⟨v, t, hv⟩ := hall _ (List.getElem_mem hlt)
    refine wpAny_pyNext_list_item hit hls (x := .int v t) (by rw [← hv]; simp [hlt]) fun h' hit' hs => ?_
    obtain ⟨o', e1, e2, e3⟩ := hit'
    obtain ⟨F2, N2⟩ := upd_iter (rest := rest) (A := [(at_, W.listOf #[.str g0 u2, .str g1 u3] n2), (al, W.listOf #[.str x0 u0, .str x1 u1] n1)]) (B := (sl, ol) :: rest) F N e1 (fun b o b1 e => (hs.2 b b1).trans e)
      (fun p hp => by rcases List.mem_cons.mp hp with rfl | hp; exact d3.symm; rw [List.mem_singleton.mp hp]; exact d2.symm) (fun p hp => by rcases List.mem_cons.mp hp with rfl | hp; exact d6; exact r3 p hp)
    refine wpAny_assign_Name (wpAny_storeName_local rfl F2.ns (fun h2 hn2 hs2 => ?_) rfl)
    have F3 := F2.set hn2 hs2
    have N3 := N2.set hs2
    rw [map_tl hl ht] at F3
    refine turn1 w mean mg mb h₀ L al at_ _ _ _ x0 x1 g0 g1 v u0 u1 u2 u3 t n1 n2 ((I, o') :: (sl, ol) :: rest) m B X T (by omega) (by omega) (by omega) (by omega) F3 N3 d1 ?_ ?_ ?_
    · intro p hp
      rcases List.mem_cons.mp hp with rfl | hp
      · exact d2
      · rcases List.mem_cons.mp hp with rfl | hp
        · exact d4
        · exact r1 p hp
    · intro oo p hp
      rcases List.mem_cons.mp hp with rfl | hp
      · exact d1.symm
      · rcases List.mem_cons.mp hp with rfl | hp
        · exact d3
        · rcases List.mem_cons.mp hp with rfl | hp
          · exact d5
          · exact r2 p hp
    · intro X0 X1 G0 G1 U0 U1 U2 U3 h4 tk4 M4 s0 s1 t0 t1 F4 ht4 hl4 N4
      refine ⟨n, Nat.lt_succ_self n, i + 1, h4, tk4, rfl, by omega, ⟨X0, X1, G0, G1, U0, U1, U2, U3, n1, n2, o', ol, M4, F4, hl4, ht4, N4, ⟨e2, e3⟩, hol, s0.2.2 a0, s1.2.2 a1, t0.2 b0, t1.2 b1, Nat.le_trans p0 s0.1, Nat.le_trans p1 s1.1, ?_, ?_, ?_, ?_⟩⟩
      · have := s0.2.1; omega
      · have := s1.2.1; omega
      · have := t0.1; omega
      · have := t1.1; omega
end
end Mine

end
section -- U4
open PySem PySem.W PyProof.Rows PySem.Calls
set_option Elab.async false
set_option maxRecDepth 100000
set_option pp.maxSteps 3000
namespace Mine
noncomputable def slcE : Expr := forI (fb_11 pw0)[2]?
set_option maxHeartbeats 1500000 in
theorem front0 (w : World) (mean : ExcName → Option Value) (mg mb : Str → Option Value) (h₀ : Heap) (L sc : Addr) (s : Shared) (Q : Flow → Shared → Prop) (E : Value → Shared → Prop)
    (B : Below callerA h₀ [] h₀) (X : (K w.params).In h₀) (T : Top (q pw0) loose0 mean mg mb h₀)
    (F : Fr h₀ L s.heap (fun y => if y = Str.ofString "script" then some (.ref sc) else none)) (N : News h₀ L s.heap [(248, tabObj #[])])
    (hQ : ∀ (al : Addr) u0 u1 h' tk, @LT.lt Nat _ 248 al →
      Fr h₀ L h' (fun y => if y = Str.ofString "lines" then some (.ref al) else if y = Str.ofString "script" then some (.ref sc) else none) →
      News h₀ L h' [(al, W.listOf #[.str (Str.ofString "a\tb") u0, .str (Str.ofString "a b") u1] 0), (248, tabObj #[])] → Q .next { s with heap := h', toks := tk }) :
    wpAny (model PySem.Challenge.rw_dm0062_06.row.prog w) (callerA.deeper (lawE L)) (exec ((fb_11 pw0).getD 0 (.Pass default)) (lawE L)) Q E s := by
  revert X
  k_fill
  intro X
  show wpAny _ _ (exec (.Assign _ _ _) _) _ _ _
  repeat' (first | (k_unfold; (try dsimp only)) | walk1 | (dsimp only; walk1) | fail "no step")
  all_goals (rename Fr h₀ L _ _ => gF; rename News h₀ L _ _ => gN; rename (248 < _) => gl1)
  exact hQ _ _ _ _ _ gl1 gF gN
set_option maxHeartbeats 1500000 in
theorem front1 (w : World) (mean : ExcName → Option Value) (mg mb : Str → Option Value) (h₀ : Heap) (L sc al : Addr) (s : Shared) (Q : Flow → Shared → Prop) (E : Value → Shared → Prop) (vs : List Value) (o : Obj)
    (B : Below callerA h₀ [] h₀) (X : (K w.params).In h₀) (T : Top (q pw0) loose0 mean mg mb h₀) (hL : h₀.IsList sc vs.toArray) (hv : vs.length ≤ 63)
    (F : Fr h₀ L s.heap (fun y => if y = Str.ofString "lines" then some (.ref al) else if y = Str.ofString "script" then some (.ref sc) else none)) (N : News h₀ L s.heap [(al, o), (248, tabObj #[])])
    (hQ : ∀ (at_ : Addr) g0 u2 u3 h' tk, TagA g0 → g0.length ≤ 3 → @LT.lt Nat _ al at_ →
      Fr h₀ L h' (fun y => if y = Str.ofString "tags" then some (.ref at_) else if y = Str.ofString "lines" then some (.ref al) else if y = Str.ofString "script" then some (.ref sc) else none) →
      News h₀ L h' [(at_, W.listOf #[.str g0 u2, .str (Str.ofString "") u3] 0), (al, o), (248, tabObj #[])] → Q .next { s with heap := h', toks := tk }) :
    wpAny (model PySem.Challenge.rw_dm0062_06.row.prog w) (callerA.deeper (lawE L)) (exec ((fb_11 pw0).getD 1 (.Pass default)) (lawE L)) Q E s := by
  revert X
  k_fill
  intro X
  show wpAny _ _ (exec (.Assign _ _ _) _) _ _ _
  repeat' (first | ((with_reducible show wpAny _ _ (call (Value.builtin "len") [Value.ref sc]) _ _ _); rename Fr h₀ L _ _ => gF; refine len_list (hL.at fun o e => gF.keep _ o e) (by simp; omega) ?_) | (k_unfold; (try dsimp only)) | walk1 | (dsimp only; walk1) | fail "no step")
  all_goals (rename Fr h₀ L _ _ => gF; rename News h₀ L _ _ => gN; rename _ ∧ _ => gl2)
  all_goals (refine hQ _ _ _ _ _ _ ?_ ?_ gl2.1 gF gN)
  all_goals first | decide +kernel | (unfold TagA; decide +kernel)
set_option maxHeartbeats 1500000 in
theorem slc (w : World) (mean : ExcName → Option Value) (mg mb : Str → Option Value) (h₀ : Heap) (L sc al at_ : Addr) (s : Shared) (Q : Value → Shared → Prop) (E : Value → Shared → Prop) (vs : List Value) (news : List (Addr × Obj))
    (B : Below callerA h₀ [] h₀) (X : (K w.params).In h₀) (T : Top (q pw0) loose0 mean mg mb h₀) (hL : h₀.IsList sc vs.toArray) (hv : vs.length ≤ 63)
    (F : Fr h₀ L s.heap (fun y => if y = Str.ofString "tags" then some (.ref at_) else if y = Str.ofString "lines" then some (.ref al) else if y = Str.ofString "script" then some (.ref sc) else none)) (N : News h₀ L s.heap news)
    (hQ : ∀ h' tk (sl : Addr), sl = s.heap.objs.size + 1 → Fr h₀ L h' (fun y => if y = Str.ofString "tags" then some (.ref at_) else if y = Str.ofString "lines" then some (.ref al) else if y = Str.ofString "script" then some (.ref sc) else none) →
      News h₀ L h' ((sl, { cls := Value.type "list", data := Data.seq (slicePick vs.toArray none (some 30) none) }) :: news) → Q (.ref sl) { s with heap := h', toks := tk }) :
    wpAny (model PySem.Challenge.rw_dm0062_06.row.prog w) (callerA.deeper (lawE L)) (eval slcE (lawE L)) Q E s := by
  revert X
  k_fill
  intro X
  show wpAny _ _ (eval (.Subscript _ _ _) _) _ _ _
  repeat' (first | (k_unfold; (try dsimp only)) | walk1 | (dsimp only; walk1) | fail "no step")
  rename_i h' gF gN
  exact hQ _ _ _ rfl gF gN
theorem ints_all : ∀ {vs : List Value} {ns : List Int}, IntsAre vs ns → ∀ v ∈ vs, ∃ n t, v = Value.int n t
  | _, _, .nil, _, h => by cases h
  | _, _, .cons n t r, v, h => by
    rcases List.mem_cons.mp h with rfl | h
    · exact ⟨n, t, rfl⟩
    · exact ints_all r v h
end Mine

end
section -- U5
open PySem PySem.W PyProof.Rows PySem.Calls
set_option Elab.async false
set_option maxRecDepth 100000
set_option pp.maxSteps 3000
namespace Mine
set_option maxHeartbeats 1500000 in
theorem ret_true (w : World) (L : Addr) (s : Shared) (Q : Flow → Shared → Prop) (E : Value → Shared → Prop) (hQ : Q (.ret (.bool true)) s) :
    wpAny (qM w) (callerA.deeper (lawE L)) (exec ((fb_11 pw0).getD 4 (.Pass default)) (lawE L)) Q E s := by
  show wpAny _ _ (exec (.Return (some _) _) _) _ _ _
  refine wpAny_Return_some ?_
  walk1
  exact hQ
theorem news_lt {h₀ h : Heap} {L : Addr} {news : List (Addr × Obj)} (N : News h₀ L h news) {p : Addr × Obj} (hp : p ∈ news) : @LT.lt Nat _ p.1 h.objs.size := Heap.lt_size (N p hp).1
set_option maxHeartbeats 1500000 in
theorem lawBody {w : World} {mean : ExcName → Option Value} {mg mb : Str → Option Value} {h₀ : Heap} {L sc : Addr} {s : Shared} {Q : Flow → Shared → Prop} {E : Value → Shared → Prop} {vs : List Value} {ns : List Int}
    (B : Below callerA h₀ [] h₀) (X : (K w.params).In h₀) (T : Top (q pw0) loose0 mean mg mb h₀) (h8 : h₀.get? 248 = none) (hL : h₀.IsList sc vs.toArray) (hv : vs.length ≤ 63) (hI : IntsAre vs ns) (hb : AllBare s.gens)
    (F : Fr h₀ L s.heap (fun y => if y = Str.ofString "script" then some (.ref sc) else none)) (N : News h₀ L s.heap [(248, tabObj #[])])
    (hQ : ∀ s' m' ps, Fr h₀ L s'.heap m' → s'.heap.get? 248 = some (tabObj ps) → AllBare s'.gens → s'.os = s.os → s'.drawn = s.drawn → Q (.ret (.bool true)) s') :
    wpAny (qM w) (callerA.deeper (lawE L)) (execs (fb_11 pw0) (lawE L)) Q E s := by
  have e : fb_11 pw0 = [(fb_11 pw0).getD 0 (.Pass default), (fb_11 pw0).getD 1 (.Pass default), (fb_11 pw0).getD 2 (.Pass default), (fb_11 pw0).getD 3 (.Pass default), (fb_11 pw0).getD 4 (.Pass default)] := by rfl
  rw [e]
  refine wpAny_execs_cons (front0 w mean mg mb h₀ L sc s _ _ B X T F N fun al u0 u1 h1 tk1 d2 F1 N1 => ?_)
  refine wpAny_execs_cons (front1 w mean mg mb h₀ L sc al _ _ _ vs _ B X T hL hv F1 N1 fun at_ g0 u2 u3 h1 tk1 tg lg d1 F1 N1 => ?_)
  refine wpAny_execs_cons ?_
  show wpAny _ _ (exec (.For (.Name (Str.ofString "x") _) slcE b1B [] _) _) _ _ _
  have t1 := news_lt N1 (.head _)
  have t2 := news_lt N1 (.tail _ (.head _))
  have t3 := news_lt N1 (.tail _ (.tail _ (.head _)))
  refine wpAny_For (slc w mean mg mb h₀ L sc al at_ _ _ _ vs _ B X T hL hv F1 N1 fun h2 tk2 sl hsl F2 N2 => ?_) (fun _ => rfl)
  have hsl : @Eq Nat sl (h1.objs.size + 1) := hsl
  have nS := N2 _ (.head _)
  have t4 : @LT.lt Nat _ sl h2.objs.size := news_lt N2 (.head _)
  have hU := kmk_upto (y := 30) hI (by decide)
  have hls : h2.IsList sl (slicePick vs.toArray none (some 30) none).toList.toArray := ⟨_, nS.1, rfl, 0, rfl⟩
  refine wpAny_pyIter_list hls ?_
  refine loop1 (at_ := at_) (al := al) (I := h2.objs.size) (sl := sl) (items := (slicePick vs.toArray none (some 30) none).toList) (rest := [(248, tabObj #[])]) B X T ?_ (ints_all hU) ?_ ?_ ?_ ?_ ?_ ?_ ?_ ?_ ?_ ?_ ?_
  · rw [hU.length]; simp [List.length_take]; omega
  · exact Nat.ne_of_gt d1
  · exact Nat.ne_of_gt (by omega)
  · exact Nat.ne_of_gt (by omega)
  · exact Nat.ne_of_gt (by omega)
  · exact Nat.ne_of_gt (by omega)
  · exact Nat.ne_of_lt t4
  · intro p hp; rw [List.mem_singleton.mp hp]; exact Nat.ne_of_lt d2
  · intro p hp; rw [List.mem_singleton.mp hp]; exact Nat.ne_of_lt (Nat.lt_trans d2 d1)
  · intro p hp; rw [List.mem_singleton.mp hp]; exact Nat.ne_of_lt (by omega)
  · have kp : ∀ {o' : Obj} b o, h2.get? b = some o → (h2.push o').get? b = some o := fun b o e => Heap.get?_push_of_some _ e
    have F3 := F2.keeps (kp (o' := { cls := .type "list_iterator", data := .fields #[.ref sl, .int 0 0] }))
    have hlt : L < h2.objs.size := F2.ns.lt
    refine ⟨Str.ofString "a\tb", Str.ofString "a b", g0, Str.ofString "", u0, u1, u2, u3, 0, 0, { cls := .type "list_iterator", data := .fields #[.ref sl, .int 0 0] }, { cls := Value.type "list", data := Data.seq (slicePick vs.toArray none (some 30) none) }, _, F3, rfl, rfl, fun q hq => ?_, ⟨rfl, rfl⟩, ⟨rfl, 0, rfl⟩, by unfold Alpha; decide +kernel, by unfold Alpha; decide +kernel, tg, by unfold TagA; decide +kernel, by decide, by decide, by decide, by decide, lg, by decide⟩
    have old : News h₀ L (h2.push { cls := .type "list_iterator", data := .fields #[.ref sl, .int 0 0] }) _ := fun q hq => ⟨kp _ _ (N2 q hq).1, (N2 q hq).2⟩
    rcases List.mem_cons.mp hq with rfl | hq
    · exact old _ (.tail _ (.head _))
    · rcases List.mem_cons.mp hq with rfl | hq
      · exact old _ (.tail _ (.tail _ (.head _)))
      · rcases List.mem_cons.mp hq with rfl | hq
        · exact ⟨Heap.get?_push_size _ rfl, Nat.ne_of_gt hlt, Heap.get?_none_of_le (Nat.le_trans F2.above (Nat.le_of_lt hlt))⟩
        · rcases List.mem_cons.mp hq with rfl | hq
          · exact old _ (.head _)
          · rw [List.mem_singleton.mp hq]; exact old _ (.tail _ (.tail _ (.tail _ (.head _))))
  · rintro h5 tk5 ⟨x0, x1, g0, g1, v0, v1, v2, v3, n1, n2, m5, F5, hl5, ht5, N5, a0, a1, b0, b1, p0, p1, l0, l1, k0, k1⟩
    refine wpAny_execs_cons (loops (al := al) (at_ := at_) B X T h8 a0 a1 b0 b1 p0 p1 l0 l1 k0 k1 ⟨F5, hl5, ht5, ⟨#[], True.intro, N5⟩, hb⟩ fun s6 m6 S6 e6 e7 => ?_)
    refine wpAny_execs_cons (ret_true w L _ _ _ ?_)
    obtain ⟨ps, _, N6⟩ := S6.N
    exact hQ s6 m6 ps S6.F (N6 _ (.tail _ (.tail _ (.head _)))).1 S6.bare e6 e7
end Mine

end
-- U6
open PySem PySem.W PyProof.Rows PySem.Calls
set_option Elab.async false
set_option maxRecDepth 100000
set_option pp.maxSteps 3000
namespace Mine
theorem lk1 {v : Value} {a : Str} (h : a = Str.ofString "script" := by rfl) : (fun x => List.lookup x [(a, v)].reverse) = (fun y => if y = Str.ofString "script" then some v else none) := by
  subst h
  funext y
  show List.lookup y [(Str.ofString "script", v)] = _
  rw [List.lookup_cons]
  by_cases q : y = Str.ofString "script"
  · rw [if_pos q, q]; simp
  · rw [if_neg q, beq_false_of_ne q]; rfl
end Mine
open Mine
set_option maxHeartbeats 8000000 in
theorem PySem.Challenge.cw_dm0062_06_holds : PySem.Challenge.rw_dm0062_06.Holds := by
  w_on
  o_law
  refine holds_open (q := Mine.q Mine.pw0) (loose := Mine.loose) (Xt := Mine.Xt Mine.pw0) (XP := XL (Mine.q Mine.pw0) []) (Yf := Mine.hk0.obs) (Ya := Mine.hk0.val) (YP := (kHook Mine.KF Mine.asF (fun _ => rfl)).says) (N := 5574) Mine.left0 Mine.hk0.of Mine.hk0.keeps (fun s e => xl_of s (Bool.and_eq_true_iff.mp e).1) XL.keeps (by rfl) (by rfl) (by rfl) (fun s e => recFacts_of (Bool.and_eq_true_iff.mp e).2) (by rfl) (by first | assumption | decide +kernel) (by decide +kernel) ⟨rfl, rfl, rfl, rfl, rfl, by decide +kernel⟩ ?hw ?hc
  case hw => w_witness2
  k_fill
  intro w s₀ s₁ mg mb G Y fa o pm cd doc dV kV ho hd hcd hD hmg hg args vals as hpre hlay hrd hwl hlo
  have KX := kIn_of Y
  have X := (Ground.X G).1
  have V := (Ground.X G).2
  refine Ground.open G ?_
  intro T B D TE TW
  obtain ⟨_, _, M⟩ := bmod_of_top T
  have TA := at_of_top T
  have hfa : fa = 336 := by
    have e1 : mg (Str.ofString "law") = some (.ref 336) := mg_of (kf_K KX) T.g (by rfl)
    have e2 := hmg
    rw [show mg _ = some (.ref 336) from e1] at e2
    cases e2; rfl
  subst hfa
  have hcd' : cd = .ref 335 := by
    have e1 := kf_K KX 336 _ rfl
    rw [e1] at ho; cases ho; cases hd; rfl
  subst hcd'
  clear hmg
  wrow_args hpre hlay hrd hwl hlo
  all_goals (
    first | refine callC_kw (enter_call ?_) | refine enter_call ?_ | refine callC_kw (enter_callW ?_) | refine enter_callW ?_ | w_how
    w_top on
    have K0 := below_caller (Top.heap T)
    w_call any ho hd hcd hD T F
    clear hd TA
    skip)
  rename IntsAre _ _ => hI
  rename Heap.IsList _ _ _ => hL
  rename ¬ (_ < _) => hc
  have ht := kf_tab KX
  have F' : Fr (hideAll s₁.heap [248]) s₁.heap.objs.size _ _ := ⟨F.ns, fun b o e => F.keep b o (of_hideAll _ e), Nat.le_trans (Nat.le_of_eq (hideAll_size _ _)) F.above⟩
  rw [lk1] at F'
  have hL' : (hideAll s₁.heap [248]).IsList _ _ := let ⟨o, e, r⟩ := hL; ⟨o, hid_get ht e (fun q => by rw [q] at r; exact nomatch r.1), r⟩
  have T' : Top (q pw0) loose0 (ExcName.means s₀.heap) mg mb s₁.heap := T
  have N' : News (hideAll s₁.heap [248]) s₁.heap.objs.size _ [(248, tabObj #[])] := fun p hp => by
    rw [List.mem_singleton.mp hp]
    exact ⟨F.keep _ _ ht, Nat.ne_of_lt (Heap.lt_size ht), hideAll_none _ (.head _)⟩
  have hv := hI.length
  show wpAny (qM w) (callerA.deeper (lawE _)) (execs (fb_11 pw0) (lawE _)) _ _ _
  refine lawBody (below_caller _) (kf_K0 KX) (top_hide KX T') (hideAll_none _ (.head _)) hL' (by omega) hI (by rw [show Shared.gens _ = s₁.gens from rfl, hg]; intro g hg; simp at hg) F' N' ?_
  intro s' m' ps F5 h248 hb5 e1 e2
  have keep : ∀ b o, b ≠ 248 → s₁.heap.get? b = some o → s'.heap.get? b = some o := fun b o hb e => F5.keep b o (hideAll_get _ e fun hm => hb (List.mem_singleton.mp hm))
  have hct : isCodeTable s₁.heap 248 := ⟨252, _, _, kf_K KX 252 _ rfl, rfl, rfl, rfl⟩
  refine ⟨.inl ⟨.bool true, .bool true, [], rfl, fun _ => rfl, .bool true, ?post, fun _ => ⟨.nil, fun a h => nomatch h⟩⟩, ⟨fun b o e => ?_, fun b o e => ?_⟩, e1, hb5⟩
  case post => wrow_post
  · by_cases hb : b = 248
    · subst hb
      rw [ht] at e; cases e
      exact .inr (.inl ⟨hct, rfl, #[], ps, rfl, by rw [Array.empty_append]; exact h248⟩)
    · exact .inl (keep b o hb e)
  · by_cases hb : b = 248
    · subst hb; exact ⟨_, h248⟩
    · exact ⟨o, keep b o hb e⟩
