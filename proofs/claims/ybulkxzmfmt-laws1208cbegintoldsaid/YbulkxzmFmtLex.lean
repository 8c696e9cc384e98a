/-
  The law's last expression is one region of 129 operations that draws its order. That its operations may be taken in the order of the text, in steps.
-/
import Derived.Test.YbulkxzmFmtChecked
import Derived.Deep.QuietTactic
import Derived.KernelRfl
namespace Go.Proofs.YbulkxzmFmt
set_option linter.unusedVariables false

def regionOps (n : Nat) : Code → List (Array Oper)
  | .region id ops _ => if id = n then [ops] else []
  | .seq a b => regionOps n a ++ regionOps n b
  | .cond _ a b => regionOps n a ++ regionOps n b
  | .block _ a => regionOps n a
  | .loop a => regionOps n a
  | _ => []
def opsOf (f : Func) (n : Nat) : Array Oper := ((f.body.map (regionOps n)).getD []).headD #[]

/-- m steps. -/
def lexSome (md : Region.Mode) (ops : Array Oper) : Nat → Nat → Array Bool → Bool
  | 0, _, _ => true
  | m + 1, k, listed => (Region.ready md ops listed).contains k && Region.free md ops listed k && lexSome md ops m (k + 1) (listed.setIfInBounds k true)
def listedBehind : Nat → Nat → Array Bool → Array Bool
  | 0, _, l => l
  | m + 1, k, l => listedBehind m (k + 1) (l.setIfInBounds k true)
theorem lexFrom_add (md : Region.Mode) (ops : Array Oper) (f : Nat) : ∀ (m k : Nat) (l : Array Bool), lexSome md ops m k l = true → Region.lexFrom md ops f (k + m) (listedBehind m k l) = true → Region.lexFrom md ops (f + m) k l = true
  | 0, k, l, _, h => h
  | m + 1, k, l, h1, h2 => by
    simp only [lexSome, Bool.and_eq_true] at h1
    obtain ⟨⟨a, b⟩, c⟩ := h1
    show Region.lexFrom md ops ((f + m) + 1) k l = true
    simp only [Region.lexFrom, Bool.and_eq_true]
    exact ⟨⟨a, b⟩, lexFrom_add md ops f m (k + 1) _ c (by rw [show k + 1 + m = k + (m + 1) by omega]; exact h2)⟩
def listedTo (n k : Nat) : Array Bool := (List.replicate k true ++ List.replicate (n - k) false).toArray
theorem lex0 : lexSome .any (opsOf Ybaf.f4 51) 4 0 (listedTo 129 0) = true := by kernel_rfl
theorem lst0 : listedBehind 4 0 (listedTo 129 0) = listedTo 129 4 := by kernel_rfl
theorem lex4 : lexSome .any (opsOf Ybaf.f4 51) 4 4 (listedTo 129 4) = true := by kernel_rfl
theorem lst4 : listedBehind 4 4 (listedTo 129 4) = listedTo 129 8 := by kernel_rfl
theorem lex8 : lexSome .any (opsOf Ybaf.f4 51) 4 8 (listedTo 129 8) = true := by kernel_rfl
theorem lst8 : listedBehind 4 8 (listedTo 129 8) = listedTo 129 12 := by kernel_rfl
theorem lex12 : lexSome .any (opsOf Ybaf.f4 51) 4 12 (listedTo 129 12) = true := by kernel_rfl
theorem lst12 : listedBehind 4 12 (listedTo 129 12) = listedTo 129 16 := by kernel_rfl
theorem lex16 : lexSome .any (opsOf Ybaf.f4 51) 4 16 (listedTo 129 16) = true := by kernel_rfl
theorem lst16 : listedBehind 4 16 (listedTo 129 16) = listedTo 129 20 := by kernel_rfl
theorem lex20 : lexSome .any (opsOf Ybaf.f4 51) 4 20 (listedTo 129 20) = true := by kernel_rfl
theorem lst20 : listedBehind 4 20 (listedTo 129 20) = listedTo 129 24 := by kernel_rfl
theorem lex24 : lexSome .any (opsOf Ybaf.f4 51) 4 24 (listedTo 129 24) = true := by kernel_rfl
theorem lst24 : listedBehind 4 24 (listedTo 129 24) = listedTo 129 28 := by kernel_rfl
theorem lex28 : lexSome .any (opsOf Ybaf.f4 51) 4 28 (listedTo 129 28) = true := by kernel_rfl
theorem lst28 : listedBehind 4 28 (listedTo 129 28) = listedTo 129 32 := by kernel_rfl
theorem lex32 : lexSome .any (opsOf Ybaf.f4 51) 4 32 (listedTo 129 32) = true := by kernel_rfl
theorem lst32 : listedBehind 4 32 (listedTo 129 32) = listedTo 129 36 := by kernel_rfl
theorem lex36 : lexSome .any (opsOf Ybaf.f4 51) 4 36 (listedTo 129 36) = true := by kernel_rfl
theorem lst36 : listedBehind 4 36 (listedTo 129 36) = listedTo 129 40 := by kernel_rfl
theorem lex40 : lexSome .any (opsOf Ybaf.f4 51) 4 40 (listedTo 129 40) = true := by kernel_rfl
theorem lst40 : listedBehind 4 40 (listedTo 129 40) = listedTo 129 44 := by kernel_rfl
theorem lex44 : lexSome .any (opsOf Ybaf.f4 51) 4 44 (listedTo 129 44) = true := by kernel_rfl
theorem lst44 : listedBehind 4 44 (listedTo 129 44) = listedTo 129 48 := by kernel_rfl
theorem lex48 : lexSome .any (opsOf Ybaf.f4 51) 4 48 (listedTo 129 48) = true := by kernel_rfl
theorem lst48 : listedBehind 4 48 (listedTo 129 48) = listedTo 129 52 := by kernel_rfl
theorem lex52 : lexSome .any (opsOf Ybaf.f4 51) 4 52 (listedTo 129 52) = true := by kernel_rfl
theorem lst52 : listedBehind 4 52 (listedTo 129 52) = listedTo 129 56 := by kernel_rfl
theorem lex56 : lexSome .any (opsOf Ybaf.f4 51) 4 56 (listedTo 129 56) = true := by kernel_rfl
theorem lst56 : listedBehind 4 56 (listedTo 129 56) = listedTo 129 60 := by kernel_rfl
theorem lex60 : lexSome .any (opsOf Ybaf.f4 51) 4 60 (listedTo 129 60) = true := by kernel_rfl
theorem lst60 : listedBehind 4 60 (listedTo 129 60) = listedTo 129 64 := by kernel_rfl
theorem lex64 : lexSome .any (opsOf Ybaf.f4 51) 4 64 (listedTo 129 64) = true := by kernel_rfl
theorem lst64 : listedBehind 4 64 (listedTo 129 64) = listedTo 129 68 := by kernel_rfl
theorem lex68 : lexSome .any (opsOf Ybaf.f4 51) 4 68 (listedTo 129 68) = true := by kernel_rfl
theorem lst68 : listedBehind 4 68 (listedTo 129 68) = listedTo 129 72 := by kernel_rfl
theorem lex72 : lexSome .any (opsOf Ybaf.f4 51) 4 72 (listedTo 129 72) = true := by kernel_rfl
theorem lst72 : listedBehind 4 72 (listedTo 129 72) = listedTo 129 76 := by kernel_rfl
theorem lex76 : lexSome .any (opsOf Ybaf.f4 51) 4 76 (listedTo 129 76) = true := by kernel_rfl
theorem lst76 : listedBehind 4 76 (listedTo 129 76) = listedTo 129 80 := by kernel_rfl
theorem lex80 : lexSome .any (opsOf Ybaf.f4 51) 4 80 (listedTo 129 80) = true := by kernel_rfl
theorem lst80 : listedBehind 4 80 (listedTo 129 80) = listedTo 129 84 := by kernel_rfl
theorem lex84 : lexSome .any (opsOf Ybaf.f4 51) 4 84 (listedTo 129 84) = true := by kernel_rfl
theorem lst84 : listedBehind 4 84 (listedTo 129 84) = listedTo 129 88 := by kernel_rfl
theorem lex88 : lexSome .any (opsOf Ybaf.f4 51) 4 88 (listedTo 129 88) = true := by kernel_rfl
theorem lst88 : listedBehind 4 88 (listedTo 129 88) = listedTo 129 92 := by kernel_rfl
theorem lex92 : lexSome .any (opsOf Ybaf.f4 51) 4 92 (listedTo 129 92) = true := by kernel_rfl
theorem lst92 : listedBehind 4 92 (listedTo 129 92) = listedTo 129 96 := by kernel_rfl
theorem lex96 : lexSome .any (opsOf Ybaf.f4 51) 4 96 (listedTo 129 96) = true := by kernel_rfl
theorem lst96 : listedBehind 4 96 (listedTo 129 96) = listedTo 129 100 := by kernel_rfl
theorem lex100 : lexSome .any (opsOf Ybaf.f4 51) 4 100 (listedTo 129 100) = true := by kernel_rfl
theorem lst100 : listedBehind 4 100 (listedTo 129 100) = listedTo 129 104 := by kernel_rfl
theorem lex104 : lexSome .any (opsOf Ybaf.f4 51) 4 104 (listedTo 129 104) = true := by kernel_rfl
theorem lst104 : listedBehind 4 104 (listedTo 129 104) = listedTo 129 108 := by kernel_rfl
theorem lex108 : lexSome .any (opsOf Ybaf.f4 51) 4 108 (listedTo 129 108) = true := by kernel_rfl
theorem lst108 : listedBehind 4 108 (listedTo 129 108) = listedTo 129 112 := by kernel_rfl
theorem lex112 : lexSome .any (opsOf Ybaf.f4 51) 4 112 (listedTo 129 112) = true := by kernel_rfl
theorem lst112 : listedBehind 4 112 (listedTo 129 112) = listedTo 129 116 := by kernel_rfl
theorem lex116 : lexSome .any (opsOf Ybaf.f4 51) 4 116 (listedTo 129 116) = true := by kernel_rfl
theorem lst116 : listedBehind 4 116 (listedTo 129 116) = listedTo 129 120 := by kernel_rfl
theorem lex120 : lexSome .any (opsOf Ybaf.f4 51) 4 120 (listedTo 129 120) = true := by kernel_rfl
theorem lst120 : listedBehind 4 120 (listedTo 129 120) = listedTo 129 124 := by kernel_rfl
theorem lex124 : lexSome .any (opsOf Ybaf.f4 51) 4 124 (listedTo 129 124) = true := by kernel_rfl
theorem lst124 : listedBehind 4 124 (listedTo 129 124) = listedTo 129 128 := by kernel_rfl
theorem lex128 : lexSome .any (opsOf Ybaf.f4 51) 1 128 (listedTo 129 128) = true := by kernel_rfl
theorem lst128 : listedBehind 1 128 (listedTo 129 128) = listedTo 129 129 := by kernel_rfl
theorem lexEnd : Region.lexFrom .any (opsOf Ybaf.f4 51) 0 129 (listedTo 129 129) = true := by kernel_rfl
theorem all128 : Region.lexFrom .any (opsOf Ybaf.f4 51) 1 128 (listedTo 129 128) = true :=
  lexFrom_add .any _ 0 1 128 _ lex128 (by rw [lst128]; exact lexEnd)
theorem all124 : Region.lexFrom .any (opsOf Ybaf.f4 51) 5 124 (listedTo 129 124) = true :=
  lexFrom_add .any _ 1 4 124 _ lex124 (by rw [lst124]; exact all128)
theorem all120 : Region.lexFrom .any (opsOf Ybaf.f4 51) 9 120 (listedTo 129 120) = true :=
  lexFrom_add .any _ 5 4 120 _ lex120 (by rw [lst120]; exact all124)
theorem all116 : Region.lexFrom .any (opsOf Ybaf.f4 51) 13 116 (listedTo 129 116) = true :=
  lexFrom_add .any _ 9 4 116 _ lex116 (by rw [lst116]; exact all120)
theorem all112 : Region.lexFrom .any (opsOf Ybaf.f4 51) 17 112 (listedTo 129 112) = true :=
  lexFrom_add .any _ 13 4 112 _ lex112 (by rw [lst112]; exact all116)
theorem all108 : Region.lexFrom .any (opsOf Ybaf.f4 51) 21 108 (listedTo 129 108) = true :=
  lexFrom_add .any _ 17 4 108 _ lex108 (by rw [lst108]; exact all112)
theorem all104 : Region.lexFrom .any (opsOf Ybaf.f4 51) 25 104 (listedTo 129 104) = true :=
  lexFrom_add .any _ 21 4 104 _ lex104 (by rw [lst104]; exact all108)
theorem all100 : Region.lexFrom .any (opsOf Ybaf.f4 51) 29 100 (listedTo 129 100) = true :=
  lexFrom_add .any _ 25 4 100 _ lex100 (by rw [lst100]; exact all104)
theorem all96 : Region.lexFrom .any (opsOf Ybaf.f4 51) 33 96 (listedTo 129 96) = true :=
  lexFrom_add .any _ 29 4 96 _ lex96 (by rw [lst96]; exact all100)
theorem all92 : Region.lexFrom .any (opsOf Ybaf.f4 51) 37 92 (listedTo 129 92) = true :=
  lexFrom_add .any _ 33 4 92 _ lex92 (by rw [lst92]; exact all96)
theorem all88 : Region.lexFrom .any (opsOf Ybaf.f4 51) 41 88 (listedTo 129 88) = true :=
  lexFrom_add .any _ 37 4 88 _ lex88 (by rw [lst88]; exact all92)
theorem all84 : Region.lexFrom .any (opsOf Ybaf.f4 51) 45 84 (listedTo 129 84) = true :=
  lexFrom_add .any _ 41 4 84 _ lex84 (by rw [lst84]; exact all88)
theorem all80 : Region.lexFrom .any (opsOf Ybaf.f4 51) 49 80 (listedTo 129 80) = true :=
  lexFrom_add .any _ 45 4 80 _ lex80 (by rw [lst80]; exact all84)
theorem all76 : Region.lexFrom .any (opsOf Ybaf.f4 51) 53 76 (listedTo 129 76) = true :=
  lexFrom_add .any _ 49 4 76 _ lex76 (by rw [lst76]; exact all80)
theorem all72 : Region.lexFrom .any (opsOf Ybaf.f4 51) 57 72 (listedTo 129 72) = true :=
  lexFrom_add .any _ 53 4 72 _ lex72 (by rw [lst72]; exact all76)
theorem all68 : Region.lexFrom .any (opsOf Ybaf.f4 51) 61 68 (listedTo 129 68) = true :=
  lexFrom_add .any _ 57 4 68 _ lex68 (by rw [lst68]; exact all72)
theorem all64 : Region.lexFrom .any (opsOf Ybaf.f4 51) 65 64 (listedTo 129 64) = true :=
  lexFrom_add .any _ 61 4 64 _ lex64 (by rw [lst64]; exact all68)
theorem all60 : Region.lexFrom .any (opsOf Ybaf.f4 51) 69 60 (listedTo 129 60) = true :=
  lexFrom_add .any _ 65 4 60 _ lex60 (by rw [lst60]; exact all64)
theorem all56 : Region.lexFrom .any (opsOf Ybaf.f4 51) 73 56 (listedTo 129 56) = true :=
  lexFrom_add .any _ 69 4 56 _ lex56 (by rw [lst56]; exact all60)
theorem all52 : Region.lexFrom .any (opsOf Ybaf.f4 51) 77 52 (listedTo 129 52) = true :=
  lexFrom_add .any _ 73 4 52 _ lex52 (by rw [lst52]; exact all56)
theorem all48 : Region.lexFrom .any (opsOf Ybaf.f4 51) 81 48 (listedTo 129 48) = true :=
  lexFrom_add .any _ 77 4 48 _ lex48 (by rw [lst48]; exact all52)
theorem all44 : Region.lexFrom .any (opsOf Ybaf.f4 51) 85 44 (listedTo 129 44) = true :=
  lexFrom_add .any _ 81 4 44 _ lex44 (by rw [lst44]; exact all48)
theorem all40 : Region.lexFrom .any (opsOf Ybaf.f4 51) 89 40 (listedTo 129 40) = true :=
  lexFrom_add .any _ 85 4 40 _ lex40 (by rw [lst40]; exact all44)
theorem all36 : Region.lexFrom .any (opsOf Ybaf.f4 51) 93 36 (listedTo 129 36) = true :=
  lexFrom_add .any _ 89 4 36 _ lex36 (by rw [lst36]; exact all40)
theorem all32 : Region.lexFrom .any (opsOf Ybaf.f4 51) 97 32 (listedTo 129 32) = true :=
  lexFrom_add .any _ 93 4 32 _ lex32 (by rw [lst32]; exact all36)
theorem all28 : Region.lexFrom .any (opsOf Ybaf.f4 51) 101 28 (listedTo 129 28) = true :=
  lexFrom_add .any _ 97 4 28 _ lex28 (by rw [lst28]; exact all32)
theorem all24 : Region.lexFrom .any (opsOf Ybaf.f4 51) 105 24 (listedTo 129 24) = true :=
  lexFrom_add .any _ 101 4 24 _ lex24 (by rw [lst24]; exact all28)
theorem all20 : Region.lexFrom .any (opsOf Ybaf.f4 51) 109 20 (listedTo 129 20) = true :=
  lexFrom_add .any _ 105 4 20 _ lex20 (by rw [lst20]; exact all24)
theorem all16 : Region.lexFrom .any (opsOf Ybaf.f4 51) 113 16 (listedTo 129 16) = true :=
  lexFrom_add .any _ 109 4 16 _ lex16 (by rw [lst16]; exact all20)
theorem all12 : Region.lexFrom .any (opsOf Ybaf.f4 51) 117 12 (listedTo 129 12) = true :=
  lexFrom_add .any _ 113 4 12 _ lex12 (by rw [lst12]; exact all16)
theorem all8 : Region.lexFrom .any (opsOf Ybaf.f4 51) 121 8 (listedTo 129 8) = true :=
  lexFrom_add .any _ 117 4 8 _ lex8 (by rw [lst8]; exact all12)
theorem all4 : Region.lexFrom .any (opsOf Ybaf.f4 51) 125 4 (listedTo 129 4) = true :=
  lexFrom_add .any _ 121 4 4 _ lex4 (by rw [lst4]; exact all8)
theorem all0 : Region.lexFrom .any (opsOf Ybaf.f4 51) 129 0 (listedTo 129 0) = true :=
  lexFrom_add .any _ 125 4 0 _ lex0 (by rw [lst0]; exact all4)
theorem noSel : Region.noSelect (opsOf Ybaf.f4 51) = true := by kernel_rfl
theorem opsSize : (opsOf Ybaf.f4 51).size = 129 := by kernel_rfl
theorem lex51 : Region.lexB .any (opsOf Ybaf.f4 51) = true := by
  unfold Region.lexB
  rw [noSel, opsSize, show Array.replicate 129 false = listedTo 129 0 by kernel_rfl, all0]
  rfl
end Go.Proofs.YbulkxzmFmt
