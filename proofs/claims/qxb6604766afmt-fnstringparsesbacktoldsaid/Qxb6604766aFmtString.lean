import Derived.Test.Qxb6604766aFmtLeaves
import Derived.Stop.CallBack
import Derived.Stop.IfaceNil
import GoSem.ClaimData
import Derived.Stop.FmtTextKit
import Derived.Stop.Texts
import Derived.Stop.JoinedTold
namespace Go.Proofs.Qxb6604766aFmt
open Go.RowKit Go.Kit Go.Extern.Stop Go.Stop Go.Extern

theorem call18 (args : Array Value) (w : World) : (callFunc 18 args).run Tryf.prog w = ((FmtStop.sprintf #[9, 81] #[9] args).run Tryf.prog w).andThen fun v w' => .ok (.value v) w' :=
  run_callFunc_extern Tryf.func18 (by kernel_rfl) (by kernel_rfl) (by kernel_rfl) (by kernel_rfl) args w
theorem guardF (name : String) (w : World) : (FmtStop.guard name).run Tryf.prog w = .ok () w := by kernel_rfl
theorem fmt0 : FmtStop.printed? ⟨#[37, 115, 58, 37, 100, 58, 37, 100, 58, 32, 37, 115]⟩ 4 = some [(0, 115, false), (1, 100, false), (2, 100, false), (3, 115, false)] := by kernel_rfl
theorem fmt0r (w : World) : (FmtDoors.printed ⟨#[37, 115, 58, 37, 100, 58, 37, 100, 58, 32, 37, 115]⟩ 4).run Tryf.prog w = .ok [(0, 115, false), (1, 100, false), (2, 100, false), (3, 115, false)] w := by kernel_rfl
def shape3 : List UInt8 := [5, 3, 0, 0, 0, 0, 0, 0, 0, 105, 110, 116]
def shape9 : List UInt8 := [12, 6, 0, 0, 0, 0, 0, 0, 0, 115, 116, 114, 105, 110, 103]
theorem op3_100 (name : String) (x : Int) (w : World) : (FmtStop.operand name false 100 false (.iface 3 (.int .i64 x))).run Tryf.prog w = .ok (shape3, Go.Extern.Stop.digits 8 (x % 2 ^ 64).toNat) w := by kernel_rfl
theorem op9_115 (name : String) (x : ByteArray) (w : World) : (FmtStop.operand name false 115 false (.iface 9 (.string x))).run Tryf.prog w = .ok (shape9, FmtStop.pack x.data.toList) w := by kernel_rfl

attribute [local go_sem] call18 guardF fmt0 fmt0r op3_100 op9_115

set_option maxHeartbeats 400000 in
theorem text_any (r m : ByteArray) (w : World) (hr : r.size ≤ 262144) (hm : m.size ≤ 262144) :
    Calls Tryf.prog 19 #[.string r, .string m] w fun e w' => e = .returned (.string (r ++ ⟨#[58, 32]⟩ ++ m)) ∧ w' = w := by
  have h2 : (ByteArray.mk #[58, 32]).size = 2 := rfl
  have hA : ∀ w, (Op.stringOp .add r ⟨#[58, 32]⟩).run Tryf.prog w = .ok (.string (r ++ ⟨#[58, 32]⟩)) w := fun w => run_string_add_sum w r ⟨#[58, 32]⟩ (by omega)
  have hB : ∀ w, (Op.stringOp .add (r ++ ⟨#[58, 32]⟩) m).run Tryf.prog w = .ok (.string (r ++ ⟨#[58, 32]⟩ ++ m)) w := fun w => run_string_add_sum w _ m (by rw [ByteArray.size_append]; omega)
  clear h2
  go_enter Tryf.func19, Tryf.ntmps19
  go_wp2
  go_ret
  exact ⟨rfl, rfl⟩

/-- What fmt is asked. -/
def reading (f : List UInt8) (l c : Int) (t : List UInt8) : List (List UInt8) :=
  [[37, 115, 58, 37, 100, 58, 37, 100, 58, 32, 37, 115], shape9, FmtStop.pack f, shape3, digits 8 (l % 18446744073709551616).toNat, shape3, digits 8 (c % 18446744073709551616).toNat, shape9, FmtStop.pack t]

set_option maxRecDepth 100000 in
set_option maxHeartbeats 1000000 in
theorem string_any (F : Interp) (f : ByteArray) (l c : Int) (r m : ByteArray) (w : World) (hF : F.answers w.tape) (hr : r.size ≤ 262144) (hm : m.size ≤ 262144) :
    Calls Tryf.prog 8 #[.agg #[.string f, .int .i64 l, .int .i64 c, .string r, .string m]] w fun e w' => e = .returned (.string (FmtStop.textOf (F "fmt.Sprintf" (reading f.data.toList l c (r.data.toList ++ 58 :: 32 :: m.data.toList)) 0))) ∧ Below w.heap.size w w' ∧ Grown w w' := by
  have hF' := answers_open hF
  go_enter Tryf.func8, Tryf.ntmps8
  go_wp2
  go_region_held (fun w' => w'.cell? ⟨w.heap.size, 0, none⟩ = some (.string f) ∧ w'.cell? ⟨w.heap.size, 1, none⟩ = some (.int .i64 l) ∧ w'.cell? ⟨w.heap.size, 2, none⟩ = some (.int .i64 c) ∧ w'.cell? ⟨w.heap.size, 3, none⟩ = some (.string r) ∧ w'.cell? ⟨w.heap.size, 4, none⟩ = some (.string m)) (go_keep)
    (first | (go_at_call 19; refine (text_any _ _ _ hr hm).mono ?_; rintro e w' ⟨rfl, rfl⟩))
  go_wp2
  go_ret
  refine ⟨rfl, ?_, ?_⟩
  · exact (((Below.refl _ _).alloc (Nat.le_refl _) _).alloc (by simp) _).drew.drew
  · exact (((Grown.refl _).alloc _ _).alloc _ _).drew.drew

/-- The line. -/
def line (f : List UInt8) (l c : Int) (r m : List UInt8) : List UInt8 := f ++ (58 :: (Lib.itoa l ++ (58 :: (Lib.itoa c ++ (58 :: 32 :: (r ++ (58 :: 32 :: m)))))))

theorem t_parse : (FmtText.parse [37, 115, 58, 37, 100, 58, 37, 100, 58, 32, 37, 115]).map FmtText.glue = some [.verb {} 115, .lit [58], .verb {} 100, .lit [58], .verb {} 100, .lit [58, 32], .verb {} 115] := by rfl

theorem t_text (f : List UInt8) (l c : Int) (t : List UInt8) (hf : f.length < 2 ^ 64) (ht : t.length < 2 ^ 64) (hl : (Lit.int .i64 l).wf = true) (hc : (Lit.int .i64 c).wf = true) :
    FmtText.text "fmt.Sprintf" (reading f l c t) = some (f ++ (58 :: (Lib.itoa l ++ (58 :: (Lib.itoa c ++ (58 :: 32 :: t)))))) := by
  have h1 := FmtText.operand_str_at (sh := shape9) rfl rfl f hf
  have h2 := FmtText.operand_int_at (sh := shape3) (k := .i64) rfl rfl l hl
  have h3 := FmtText.operand_int_at (sh := shape3) (k := .i64) rfl rfl c hc
  have h4 := FmtText.operand_str_at (sh := shape9) rfl rfl t ht
  rw [reading, FmtText.text_sprintf_glued t_parse (FmtText.operands_cons h1 (FmtText.operands_cons h2 (FmtText.operands_cons h3 (FmtText.operands_cons h4 FmtText.operands_nil))))]
  simp [FmtText.render, FmtText.printArg_s_str, FmtText.printArg_d _ _ hl, FmtText.printArg_d _ _ hc]

theorem string_told (F : Interp) (f : ByteArray) (l c : Int) (r m : ByteArray) (w : World) (hF : F.told.answers w.tape) (hf : f.size ≤ 262144) (hr : r.size ≤ 262144) (hm : m.size ≤ 262144) (hl : (Lit.int .i64 l).wf = true) (hc : (Lit.int .i64 c).wf = true) :
    Calls Tryf.prog 8 #[.agg #[.string f, .int .i64 l, .int .i64 c, .string r, .string m]] w fun e w' => ∃ s, e = .returned (.string s) ∧ s.data.toList = line f.data.toList l c r.data.toList m.data.toList ∧ Below w.heap.size w w' ∧ Grown w w' := by
  have l1 := FmtText.itoa_length_le hl
  have l2 := FmtText.itoa_length_le hc
  have e1 : f.data.toList.length = f.size := by simp
  have e2 : r.data.toList.length = r.size := by simp
  have e3 : m.data.toList.length = m.size := by simp
  have htx := t_text f.data.toList l c (r.data.toList ++ 58 :: 32 :: m.data.toList) (by omega) (by rw [List.length_append, List.length_cons, List.length_cons]; omega) hl hc
  have ht := told_string F htx (by simp only [List.length_append, List.length_cons]; omega)
  refine (string_any F.told f l c r m w hF hr hm).mono fun e w' ⟨he, hb, hg⟩ => ⟨_, he, ?_, hb, hg⟩
  rw [textOf_list, ht]
  rfl
end Go.Proofs.Qxb6604766aFmt
