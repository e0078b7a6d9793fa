/-
Multiplying, adding and counting the leading zeros of 64-bit whole numbers, walked.
-/
import Derived.Test.YtgbdplmpojkklaaDoorWalkT
import Derived.Test.YtgbdplmpojkklaaDoorKn
namespace Go.Proofs.YtgbdplmpojkklaaDoor
open Go.RowKit

section
variable {P : Program} {Q : Exit → Act → World → Prop} {n : Nat} {l : List (Nat × Value)} {w : World}
variable {ops : Array Oper} {rest : List Oper} {dst : Nat} {ty : TypeId} {pos : String} {aft : Array Edge}
theorem hl_icmp_s {op : BinOp} {t t' : TypeId} {x y : Operand} {f : Int → Int → Bool} (hop : ucmpOf op = some f) {k : IntKind} {p q : Int} (hd : dst < n)
    (hx : evl l x = some (.int k p)) (hy : evl l y = some (.int k q)) (h1 : f p q = true → HL P ops Q rest n ((dst, .bool true) :: l) w) (h2 : f p q = false → HL P ops Q rest n ((dst, .bool false) :: l) w) :
    HL P ops Q (⟨some dst, .binOp op t x y t', ty, pos, aft, none⟩ :: rest) n l w := by
  cases hb : f p q with
  | true => exact hl_known hd hx hy (by have := ki_cmp (P := P) hop k p q; rw [hb] at this; exact this) (h1 hb)
  | false => exact hl_known hd hx hy (by have := ki_cmp (P := P) hop k p q; rw [hb] at this; exact this) (h2 hb)

def strTab (s : ByteArray) : Bool := (List.range 256).all fun i => (s.data[i]?).map (·.toNat) == some (bl i)
theorem g_index_tab {t : TypeId} {x ix : Operand} {s : ByteArray} {k : IntKind} {i : Nat} (hu : P.underlying t = some .string) (hs : strTab s = true)
    (hx : evl l x = some (.string s)) (hi : evl l ix = some (.int k i)) (hlt : i < 256) :
    Gives P n l ⟨some dst, .index t x ix, ty, pos, aft, none⟩ w (.int .u8 (bl i : Nat)) := by
  intro a ha
  have h1 := List.all_eq_true.1 hs i (List.mem_range.2 hlt)
  have h2 : (s.data[i]?).map (·.toNat) = some (bl i) := by simpa using h1
  obtain ⟨b, hb, hbn⟩ := Option.map_eq_some_iff.1 h2
  obtain ⟨hsz, hget⟩ := Array.getElem?_eq_some_iff.1 hb
  have hsz' : i < s.size := hsz
  have hget' : s[i]'hsz' = b := hget
  unfold execOp
  simp only [ha.eval hx, ha.eval hi, Sem.run_bind]
  rw [run_index_string _ _ _ _ _ hu, dif_pos ⟨by omega, by omega⟩]
  simp only [Int.toNat_natCast, hget', hbn]
  rfl
theorem ki_add_i64 (p q : Nat) (h : p + q < 9223372036854775808) : Known P .add (.int .i64 p) (.int .i64 q) (.int .i64 (p + q : Nat)) := by
  intro t x y w
  refine ⟨ki_guard _ _ _ _ _ _ _ _ _, ?_⟩
  have e : IntKind.i64.wrap ((p : Int) + q) = ((p + q : Nat) : Int) := by rw [IntKind.wrap_i64]; omega
  simp only [binOp, Op.intArith, e]; rfl
theorem ki_sub_i64 (p q : Nat) (h : q ≤ p) (hp : p < 9223372036854775808) : Known P .sub (.int .i64 p) (.int .i64 q) (.int .i64 (p - q : Nat)) := by
  intro t x y w
  refine ⟨ki_guard _ _ _ _ _ _ _ _ _, ?_⟩
  have e : IntKind.i64.wrap ((p : Int) - q) = ((p - q : Nat) : Int) := by rw [IntKind.wrap_i64]; omega
  simp only [binOp, Op.intArith, e]; rfl
end

theorem ext_add64 (x y c : Nat) (hc : c ≤ 1) (w : World) : (callFunc 73 #[.int .u64 x, .int .u64 y, .int .u64 c]).run Tryd.prog w =
    .ok (.value (.tuple #[.int .u64 ((x + y + c) % 18446744073709551616 : Nat), .int .u64 ((x + y + c) / 18446744073709551616 : Nat)])) w := by
  rw [run_callFunc_extern Tryd.func73 (by kernel_rfl) (by kernel_rfl) (by kernel_rfl) (e := fun args => do
    let (x, y, c) ← Extern.MathBitsCarry.three "Add64" args
    pure (Extern.MathBitsCarry.pair ((x + y + c) % Extern.MathBitsCarry.m64) ((x + y + c) / Extern.MathBitsCarry.m64))) (by kernel_rfl)]
  have h3 : (Extern.MathBitsCarry.three "Add64" #[.int .u64 x, .int .u64 y, .int .u64 c]).run Tryd.prog w = .ok (x, y, c) w := by
    match c, hc with
    | 0, _ => rfl
    | 1, _ => rfl
  simp only [Sem.run_bind, h3, Result.andThen_ok]
  rfl

theorem conv_u64_u8 (p : Nat) (h : p < 256) : KnownC Tryd.prog 37 5 (.int .u64 p) (.int .u8 p) := by
  intro w
  rw [run_convert_int w 37 5 .u64 p (by kernel_rfl) (by kernel_rfl)]
  have e1 : Tryd.prog.intKind 5 = .u8 := by kernel_rfl
  have e : IntKind.u8.wrap (p : Int) = p := by simp [IntKind.wrap, IntKind.bits, IntKind.signed]; omega
  rw [e1, e]
theorem conv_u8_int (p : Nat) (h : p < 256) : KnownC Tryd.prog 5 3 (.int .u8 p) (.int .i64 p) := by
  intro w
  rw [run_convert_int w 5 3 .u8 p (by kernel_rfl) (by kernel_rfl)]
  have e1 : Tryd.prog.intKind 3 = .i64 := by kernel_rfl
  have e : IntKind.i64.wrap (p : Int) = p := by rw [IntKind.wrap_i64]; omega
  rw [e1, e]
theorem conv_u64_int (p : Nat) (h : p < 9223372036854775808) : KnownC Tryd.prog 37 3 (.int .u64 p) (.int .i64 p) := by
  intro w
  rw [run_convert_int w 37 3 .u64 p (by kernel_rfl) (by kernel_rfl)]
  have e1 : Tryd.prog.intKind 3 = .i64 := by kernel_rfl
  have e : IntKind.i64.wrap (p : Int) = p := by rw [IntKind.wrap_i64]; omega
  rw [e1, e]
theorem conv_int_uint (p : Nat) (h : p < 9223372036854775808) : KnownC Tryd.prog 3 46 (.int .i64 p) (.int .u64 p) := by
  intro w
  rw [run_convert_int w 3 46 .i64 p (by kernel_rfl) (by kernel_rfl)]
  have e1 : Tryd.prog.intKind 46 = .u64 := by kernel_rfl
  have e : IntKind.u64.wrap (p : Int) = p := by rw [IntKind.wrap_u64]; omega
  rw [e1, e]


set_option maxRecDepth 100000 in
set_option maxHeartbeats 4000000 in
theorem c_mul64 (x y : Nat) (hx : UI x) (hy : UI y) (w0 w : World) (hs : St w0 w) : Calls Tryd.prog 72 #[.int .u64 x, .int .u64 y] w (RUU (muHi x y) (umul x y) w0) := by
  refine calls_hw (n := _) (l := [(0, .int .u64 x), (1, .int .u64 y)]) Tryd.func72 rfl Tryd.ntmps72 (by simp) (by intro i v h; rcases i with _ | _ | _ | i <;> simp_all [List.lookup]) ?_
  repeat' (first | (refine hl_move (by decide) rfl ?_) | (refine hl_assign (by decide) rfl ?_) | (refine hl_fop rfl (by decide) rfl rfl (by first | with_reducible assumption | exact E.refl _) (by first | with_reducible assumption | exact E.refl _) (by with_reducible assumption) ?_; intro r w' e' he hr hs) | (refine hl_fcmp rfl (by decide) rfl rfl (by first | with_reducible assumption | exact E.refl _) (by first | with_reducible assumption | exact E.refl _) (fun hb => ?_) (fun hb => ?_) <;> (try first | exact Bool.noConfusion ((hb.symm.trans (by with_reducible assumption)) : true = false) | exact Bool.noConfusion ((hb.symm.trans (by with_reducible assumption)) : false = true))) | (refine hl_u64 rfl (by decide) rfl rfl (by first | with_reducible assumption | exact ⟨by decide, by decide⟩) (by first | with_reducible assumption | exact ⟨by decide, by decide⟩) ?_; intro r he hr) | (refine hl_fneg (by decide) rfl (by first | with_reducible assumption | exact E.refl _) ?_; intro r e' he hr) | (refine hl_run rfl ?_) | (refine hl_pass (by decide) rfl ?_) | (refine hl_pick_t (by decide) rfl rfl ?_) | (refine hl_pick_f (by decide) rfl rfl ?_) | (refine hl_not (by decide) rfl ?_) | (refine hl_nil ?_) | (refine hq_then (by with_reducible assumption) ?_) | (refine hw_seq (fun K hK => ?_)) | (refine hw_region ?_) | (refine hw_cond_t rfl ?_) | (refine hw_cond_f rfl ?_) | (refine hw_ret ?_) | (refine hw_block ?_) | (refine hw_skip ?_) | (refine hw_exit ?_) | (refine hq_then_ret ?_) | (refine hq_then_exit ?_) | (refine hq_block ?_) | (refine hq_block_ret ?_) | (refine hq_block_exit ?_) | (refine hq_block_exit_ne (by decide) ?_))
  all_goals (refine hq_ret2 rfl rfl rfl ⟨?_, (by with_reducible assumption)⟩; subst_vars; rfl)
theorem en_mul64 : Enters Tryd.prog 72 := enters_of Tryd.func72 (by kernel_rfl) (by kernel_rfl)

theorem en_len64 : Enters Tryd.prog 83 := enters_of Tryd.func83 (by kernel_rfl) (by kernel_rfl)

set_option maxRecDepth 100000 in
set_option maxHeartbeats 4000000 in
theorem c_len64_111 (x : Nat) (a b c : Nat) (k1 : Known Tryd.prog .geq (.int .u64 x) (.int .u64 4294967296) (.bool true)) (ka : Known Tryd.prog .shr (.int .u64 x) (.int .u64 32) (.int .u64 a)) (k2 : Known Tryd.prog .geq (.int .u64 a) (.int .u64 65536) (.bool true)) (kb : Known Tryd.prog .shr (.int .u64 a) (.int .u64 16) (.int .u64 b)) (kn2 : Known Tryd.prog .add (.int .i64 32) (.int .i64 16) (.int .i64 48)) (k3 : Known Tryd.prog .geq (.int .u64 b) (.int .u64 256) (.bool true)) (kc : Known Tryd.prog .shr (.int .u64 b) (.int .u64 8) (.int .u64 c)) (kn3 : Known Tryd.prog .add (.int .i64 48) (.int .i64 8) (.int .i64 56)) (k8 : KnownC Tryd.prog 37 5 (.int .u64 c) (.int .u8 c)) (hc : c < 256) (kl : KnownC Tryd.prog 5 3 (.int .u8 (bl c : Nat)) (.int .i64 (bl c : Nat))) (k : Nat) (ke : Known Tryd.prog .add (.int .i64 56) (.int .i64 (bl c : Nat)) (.int .i64 k)) (w0 w : World) (hs : St w0 w) : Calls Tryd.prog 83 #[.int .u64 x] w (RI k w0) := by
  have us : Tryd.prog.underlying 9 = some .string := by kernel_rfl
  refine calls_hw (n := _) (l := [(0, .int .u64 x)]) Tryd.func83 rfl Tryd.ntmps83 (by simp) (by intro i v h; rcases i with _ | _ | _ | i <;> simp_all [List.lookup]) ?_
  repeat' (first | (refine hl_move (by decide) rfl ?_) | (refine hl_assign (by decide) rfl ?_) | (refine hl_fval (by decide) rfl rfl (by with_reducible_and_instances assumption) ?_) | (refine hl_fop rfl (by decide) rfl rfl (by first | with_reducible assumption | exact E.refl _) (by first | with_reducible assumption | exact E.refl _) (by with_reducible assumption) ?_; intro r w' e' he hr hs) | (refine hl_fcmp rfl (by decide) rfl rfl (by first | with_reducible assumption | exact E.refl _) (by first | with_reducible assumption | exact E.refl _) (fun hb => ?_) (fun hb => ?_) <;> (try first | exact Bool.noConfusion ((hb.symm.trans (by with_reducible assumption)) : true = false) | exact Bool.noConfusion ((hb.symm.trans (by with_reducible assumption)) : false = true))) | (refine hl_known (by decide) rfl rfl (by with_reducible_and_instances assumption) ?_) | (refine hl_knownC (by decide) rfl (by with_reducible_and_instances assumption) ?_) | (refine hl_val (by decide) (g_index_tab us (by decide +kernel) rfl rfl (by with_reducible assumption)) ?_) | (refine hl_fneg (by decide) rfl (by first | with_reducible assumption | exact E.refl _) ?_; intro r e' he hr) | (refine hl_run rfl ?_) | (refine hl_pass (by decide) rfl ?_) | (refine hl_pick_t (by decide) rfl rfl ?_) | (refine hl_pick_f (by decide) rfl rfl ?_) | (refine hl_not (by decide) rfl ?_) | (refine hl_nil ?_) | (refine hq_then (by with_reducible assumption) ?_) | (refine hw_seq (fun K hK => ?_)) | (refine hw_region ?_) | (refine hw_cond_t rfl ?_) | (refine hw_cond_f rfl ?_) | (refine hw_ret ?_) | (refine hw_block ?_) | (refine hw_skip ?_) | (refine hw_exit ?_) | (refine hq_then_ret ?_) | (refine hq_then_exit ?_) | (refine hq_block ?_) | (refine hq_block_ret ?_) | (refine hq_block_exit ?_) | (refine hq_block_exit_ne (by decide) ?_))
  all_goals (refine hq_ret1 rfl rfl ⟨rfl, (by with_reducible assumption)⟩)

set_option maxRecDepth 100000 in
set_option maxHeartbeats 4000000 in
theorem c_len64_110 (x : Nat) (a b : Nat) (k1 : Known Tryd.prog .geq (.int .u64 x) (.int .u64 4294967296) (.bool true)) (ka : Known Tryd.prog .shr (.int .u64 x) (.int .u64 32) (.int .u64 a)) (k2 : Known Tryd.prog .geq (.int .u64 a) (.int .u64 65536) (.bool true)) (kb : Known Tryd.prog .shr (.int .u64 a) (.int .u64 16) (.int .u64 b)) (kn2 : Known Tryd.prog .add (.int .i64 32) (.int .i64 16) (.int .i64 48)) (k3 : Known Tryd.prog .geq (.int .u64 b) (.int .u64 256) (.bool false)) (k8 : KnownC Tryd.prog 37 5 (.int .u64 b) (.int .u8 b)) (hc : b < 256) (kl : KnownC Tryd.prog 5 3 (.int .u8 (bl b : Nat)) (.int .i64 (bl b : Nat))) (k : Nat) (ke : Known Tryd.prog .add (.int .i64 48) (.int .i64 (bl b : Nat)) (.int .i64 k)) (w0 w : World) (hs : St w0 w) : Calls Tryd.prog 83 #[.int .u64 x] w (RI k w0) := by
  have us : Tryd.prog.underlying 9 = some .string := by kernel_rfl
  refine calls_hw (n := _) (l := [(0, .int .u64 x)]) Tryd.func83 rfl Tryd.ntmps83 (by simp) (by intro i v h; rcases i with _ | _ | _ | i <;> simp_all [List.lookup]) ?_
  repeat' (first | (refine hl_move (by decide) rfl ?_) | (refine hl_assign (by decide) rfl ?_) | (refine hl_fval (by decide) rfl rfl (by with_reducible_and_instances assumption) ?_) | (refine hl_fop rfl (by decide) rfl rfl (by first | with_reducible assumption | exact E.refl _) (by first | with_reducible assumption | exact E.refl _) (by with_reducible assumption) ?_; intro r w' e' he hr hs) | (refine hl_fcmp rfl (by decide) rfl rfl (by first | with_reducible assumption | exact E.refl _) (by first | with_reducible assumption | exact E.refl _) (fun hb => ?_) (fun hb => ?_) <;> (try first | exact Bool.noConfusion ((hb.symm.trans (by with_reducible assumption)) : true = false) | exact Bool.noConfusion ((hb.symm.trans (by with_reducible assumption)) : false = true))) | (refine hl_known (by decide) rfl rfl (by with_reducible_and_instances assumption) ?_) | (refine hl_knownC (by decide) rfl (by with_reducible_and_instances assumption) ?_) | (refine hl_val (by decide) (g_index_tab us (by decide +kernel) rfl rfl (by with_reducible assumption)) ?_) | (refine hl_fneg (by decide) rfl (by first | with_reducible assumption | exact E.refl _) ?_; intro r e' he hr) | (refine hl_run rfl ?_) | (refine hl_pass (by decide) rfl ?_) | (refine hl_pick_t (by decide) rfl rfl ?_) | (refine hl_pick_f (by decide) rfl rfl ?_) | (refine hl_not (by decide) rfl ?_) | (refine hl_nil ?_) | (refine hq_then (by with_reducible assumption) ?_) | (refine hw_seq (fun K hK => ?_)) | (refine hw_region ?_) | (refine hw_cond_t rfl ?_) | (refine hw_cond_f rfl ?_) | (refine hw_ret ?_) | (refine hw_block ?_) | (refine hw_skip ?_) | (refine hw_exit ?_) | (refine hq_then_ret ?_) | (refine hq_then_exit ?_) | (refine hq_block ?_) | (refine hq_block_ret ?_) | (refine hq_block_exit ?_) | (refine hq_block_exit_ne (by decide) ?_))
  all_goals (refine hq_ret1 rfl rfl ⟨rfl, (by with_reducible assumption)⟩)

set_option maxRecDepth 100000 in
set_option maxHeartbeats 4000000 in
theorem c_len64_101 (x : Nat) (a c : Nat) (k1 : Known Tryd.prog .geq (.int .u64 x) (.int .u64 4294967296) (.bool true)) (ka : Known Tryd.prog .shr (.int .u64 x) (.int .u64 32) (.int .u64 a)) (k2 : Known Tryd.prog .geq (.int .u64 a) (.int .u64 65536) (.bool false)) (k3 : Known Tryd.prog .geq (.int .u64 a) (.int .u64 256) (.bool true)) (kc : Known Tryd.prog .shr (.int .u64 a) (.int .u64 8) (.int .u64 c)) (kn3 : Known Tryd.prog .add (.int .i64 32) (.int .i64 8) (.int .i64 40)) (k8 : KnownC Tryd.prog 37 5 (.int .u64 c) (.int .u8 c)) (hc : c < 256) (kl : KnownC Tryd.prog 5 3 (.int .u8 (bl c : Nat)) (.int .i64 (bl c : Nat))) (k : Nat) (ke : Known Tryd.prog .add (.int .i64 40) (.int .i64 (bl c : Nat)) (.int .i64 k)) (w0 w : World) (hs : St w0 w) : Calls Tryd.prog 83 #[.int .u64 x] w (RI k w0) := by
  have us : Tryd.prog.underlying 9 = some .string := by kernel_rfl
  refine calls_hw (n := _) (l := [(0, .int .u64 x)]) Tryd.func83 rfl Tryd.ntmps83 (by simp) (by intro i v h; rcases i with _ | _ | _ | i <;> simp_all [List.lookup]) ?_
  repeat' (first | (refine hl_move (by decide) rfl ?_) | (refine hl_assign (by decide) rfl ?_) | (refine hl_fval (by decide) rfl rfl (by with_reducible_and_instances assumption) ?_) | (refine hl_fop rfl (by decide) rfl rfl (by first | with_reducible assumption | exact E.refl _) (by first | with_reducible assumption | exact E.refl _) (by with_reducible assumption) ?_; intro r w' e' he hr hs) | (refine hl_fcmp rfl (by decide) rfl rfl (by first | with_reducible assumption | exact E.refl _) (by first | with_reducible assumption | exact E.refl _) (fun hb => ?_) (fun hb => ?_) <;> (try first | exact Bool.noConfusion ((hb.symm.trans (by with_reducible assumption)) : true = false) | exact Bool.noConfusion ((hb.symm.trans (by with_reducible assumption)) : false = true))) | (refine hl_known (by decide) rfl rfl (by with_reducible_and_instances assumption) ?_) | (refine hl_knownC (by decide) rfl (by with_reducible_and_instances assumption) ?_) | (refine hl_val (by decide) (g_index_tab us (by decide +kernel) rfl rfl (by with_reducible assumption)) ?_) | (refine hl_fneg (by decide) rfl (by first | with_reducible assumption | exact E.refl _) ?_; intro r e' he hr) | (refine hl_run rfl ?_) | (refine hl_pass (by decide) rfl ?_) | (refine hl_pick_t (by decide) rfl rfl ?_) | (refine hl_pick_f (by decide) rfl rfl ?_) | (refine hl_not (by decide) rfl ?_) | (refine hl_nil ?_) | (refine hq_then (by with_reducible assumption) ?_) | (refine hw_seq (fun K hK => ?_)) | (refine hw_region ?_) | (refine hw_cond_t rfl ?_) | (refine hw_cond_f rfl ?_) | (refine hw_ret ?_) | (refine hw_block ?_) | (refine hw_skip ?_) | (refine hw_exit ?_) | (refine hq_then_ret ?_) | (refine hq_then_exit ?_) | (refine hq_block ?_) | (refine hq_block_ret ?_) | (refine hq_block_exit ?_) | (refine hq_block_exit_ne (by decide) ?_))
  all_goals (refine hq_ret1 rfl rfl ⟨rfl, (by with_reducible assumption)⟩)

set_option maxRecDepth 100000 in
set_option maxHeartbeats 4000000 in
theorem c_len64_100 (x : Nat) (a : Nat) (k1 : Known Tryd.prog .geq (.int .u64 x) (.int .u64 4294967296) (.bool true)) (ka : Known Tryd.prog .shr (.int .u64 x) (.int .u64 32) (.int .u64 a)) (k2 : Known Tryd.prog .geq (.int .u64 a) (.int .u64 65536) (.bool false)) (k3 : Known Tryd.prog .geq (.int .u64 a) (.int .u64 256) (.bool false)) (k8 : KnownC Tryd.prog 37 5 (.int .u64 a) (.int .u8 a)) (hc : a < 256) (kl : KnownC Tryd.prog 5 3 (.int .u8 (bl a : Nat)) (.int .i64 (bl a : Nat))) (k : Nat) (ke : Known Tryd.prog .add (.int .i64 32) (.int .i64 (bl a : Nat)) (.int .i64 k)) (w0 w : World) (hs : St w0 w) : Calls Tryd.prog 83 #[.int .u64 x] w (RI k w0) := by
  have us : Tryd.prog.underlying 9 = some .string := by kernel_rfl
  refine calls_hw (n := _) (l := [(0, .int .u64 x)]) Tryd.func83 rfl Tryd.ntmps83 (by simp) (by intro i v h; rcases i with _ | _ | _ | i <;> simp_all [List.lookup]) ?_
  repeat' (first | (refine hl_move (by decide) rfl ?_) | (refine hl_assign (by decide) rfl ?_) | (refine hl_fval (by decide) rfl rfl (by with_reducible_and_instances assumption) ?_) | (refine hl_fop rfl (by decide) rfl rfl (by first | with_reducible assumption | exact E.refl _) (by first | with_reducible assumption | exact E.refl _) (by with_reducible assumption) ?_; intro r w' e' he hr hs) | (refine hl_fcmp rfl (by decide) rfl rfl (by first | with_reducible assumption | exact E.refl _) (by first | with_reducible assumption | exact E.refl _) (fun hb => ?_) (fun hb => ?_) <;> (try first | exact Bool.noConfusion ((hb.symm.trans (by with_reducible assumption)) : true = false) | exact Bool.noConfusion ((hb.symm.trans (by with_reducible assumption)) : false = true))) | (refine hl_known (by decide) rfl rfl (by with_reducible_and_instances assumption) ?_) | (refine hl_knownC (by decide) rfl (by with_reducible_and_instances assumption) ?_) | (refine hl_val (by decide) (g_index_tab us (by decide +kernel) rfl rfl (by with_reducible assumption)) ?_) | (refine hl_fneg (by decide) rfl (by first | with_reducible assumption | exact E.refl _) ?_; intro r e' he hr) | (refine hl_run rfl ?_) | (refine hl_pass (by decide) rfl ?_) | (refine hl_pick_t (by decide) rfl rfl ?_) | (refine hl_pick_f (by decide) rfl rfl ?_) | (refine hl_not (by decide) rfl ?_) | (refine hl_nil ?_) | (refine hq_then (by with_reducible assumption) ?_) | (refine hw_seq (fun K hK => ?_)) | (refine hw_region ?_) | (refine hw_cond_t rfl ?_) | (refine hw_cond_f rfl ?_) | (refine hw_ret ?_) | (refine hw_block ?_) | (refine hw_skip ?_) | (refine hw_exit ?_) | (refine hq_then_ret ?_) | (refine hq_then_exit ?_) | (refine hq_block ?_) | (refine hq_block_ret ?_) | (refine hq_block_exit ?_) | (refine hq_block_exit_ne (by decide) ?_))
  all_goals (refine hq_ret1 rfl rfl ⟨rfl, (by with_reducible assumption)⟩)

set_option maxRecDepth 100000 in
set_option maxHeartbeats 4000000 in
theorem c_len64_011 (x : Nat) (b c : Nat) (k1 : Known Tryd.prog .geq (.int .u64 x) (.int .u64 4294967296) (.bool false)) (k2 : Known Tryd.prog .geq (.int .u64 x) (.int .u64 65536) (.bool true)) (kb : Known Tryd.prog .shr (.int .u64 x) (.int .u64 16) (.int .u64 b)) (kn2 : Known Tryd.prog .add (.int .i64 0) (.int .i64 16) (.int .i64 16)) (k3 : Known Tryd.prog .geq (.int .u64 b) (.int .u64 256) (.bool true)) (kc : Known Tryd.prog .shr (.int .u64 b) (.int .u64 8) (.int .u64 c)) (kn3 : Known Tryd.prog .add (.int .i64 16) (.int .i64 8) (.int .i64 24)) (k8 : KnownC Tryd.prog 37 5 (.int .u64 c) (.int .u8 c)) (hc : c < 256) (kl : KnownC Tryd.prog 5 3 (.int .u8 (bl c : Nat)) (.int .i64 (bl c : Nat))) (k : Nat) (ke : Known Tryd.prog .add (.int .i64 24) (.int .i64 (bl c : Nat)) (.int .i64 k)) (w0 w : World) (hs : St w0 w) : Calls Tryd.prog 83 #[.int .u64 x] w (RI k w0) := by
  have us : Tryd.prog.underlying 9 = some .string := by kernel_rfl
  refine calls_hw (n := _) (l := [(0, .int .u64 x)]) Tryd.func83 rfl Tryd.ntmps83 (by simp) (by intro i v h; rcases i with _ | _ | _ | i <;> simp_all [List.lookup]) ?_
  repeat' (first | (refine hl_move (by decide) rfl ?_) | (refine hl_assign (by decide) rfl ?_) | (refine hl_fval (by decide) rfl rfl (by with_reducible_and_instances assumption) ?_) | (refine hl_fop rfl (by decide) rfl rfl (by first | with_reducible assumption | exact E.refl _) (by first | with_reducible assumption | exact E.refl _) (by with_reducible assumption) ?_; intro r w' e' he hr hs) | (refine hl_fcmp rfl (by decide) rfl rfl (by first | with_reducible assumption | exact E.refl _) (by first | with_reducible assumption | exact E.refl _) (fun hb => ?_) (fun hb => ?_) <;> (try first | exact Bool.noConfusion ((hb.symm.trans (by with_reducible assumption)) : true = false) | exact Bool.noConfusion ((hb.symm.trans (by with_reducible assumption)) : false = true))) | (refine hl_known (by decide) rfl rfl (by with_reducible_and_instances assumption) ?_) | (refine hl_knownC (by decide) rfl (by with_reducible_and_instances assumption) ?_) | (refine hl_val (by decide) (g_index_tab us (by decide +kernel) rfl rfl (by with_reducible assumption)) ?_) | (refine hl_fneg (by decide) rfl (by first | with_reducible assumption | exact E.refl _) ?_; intro r e' he hr) | (refine hl_run rfl ?_) | (refine hl_pass (by decide) rfl ?_) | (refine hl_pick_t (by decide) rfl rfl ?_) | (refine hl_pick_f (by decide) rfl rfl ?_) | (refine hl_not (by decide) rfl ?_) | (refine hl_nil ?_) | (refine hq_then (by with_reducible assumption) ?_) | (refine hw_seq (fun K hK => ?_)) | (refine hw_region ?_) | (refine hw_cond_t rfl ?_) | (refine hw_cond_f rfl ?_) | (refine hw_ret ?_) | (refine hw_block ?_) | (refine hw_skip ?_) | (refine hw_exit ?_) | (refine hq_then_ret ?_) | (refine hq_then_exit ?_) | (refine hq_block ?_) | (refine hq_block_ret ?_) | (refine hq_block_exit ?_) | (refine hq_block_exit_ne (by decide) ?_))
  all_goals (refine hq_ret1 rfl rfl ⟨rfl, (by with_reducible assumption)⟩)

set_option maxRecDepth 100000 in
set_option maxHeartbeats 4000000 in
theorem c_len64_010 (x : Nat) (b : Nat) (k1 : Known Tryd.prog .geq (.int .u64 x) (.int .u64 4294967296) (.bool false)) (k2 : Known Tryd.prog .geq (.int .u64 x) (.int .u64 65536) (.bool true)) (kb : Known Tryd.prog .shr (.int .u64 x) (.int .u64 16) (.int .u64 b)) (kn2 : Known Tryd.prog .add (.int .i64 0) (.int .i64 16) (.int .i64 16)) (k3 : Known Tryd.prog .geq (.int .u64 b) (.int .u64 256) (.bool false)) (k8 : KnownC Tryd.prog 37 5 (.int .u64 b) (.int .u8 b)) (hc : b < 256) (kl : KnownC Tryd.prog 5 3 (.int .u8 (bl b : Nat)) (.int .i64 (bl b : Nat))) (k : Nat) (ke : Known Tryd.prog .add (.int .i64 16) (.int .i64 (bl b : Nat)) (.int .i64 k)) (w0 w : World) (hs : St w0 w) : Calls Tryd.prog 83 #[.int .u64 x] w (RI k w0) := by
  have us : Tryd.prog.underlying 9 = some .string := by kernel_rfl
  refine calls_hw (n := _) (l := [(0, .int .u64 x)]) Tryd.func83 rfl Tryd.ntmps83 (by simp) (by intro i v h; rcases i with _ | _ | _ | i <;> simp_all [List.lookup]) ?_
  repeat' (first | (refine hl_move (by decide) rfl ?_) | (refine hl_assign (by decide) rfl ?_) | (refine hl_fval (by decide) rfl rfl (by with_reducible_and_instances assumption) ?_) | (refine hl_fop rfl (by decide) rfl rfl (by first | with_reducible assumption | exact E.refl _) (by first | with_reducible assumption | exact E.refl _) (by with_reducible assumption) ?_; intro r w' e' he hr hs) | (refine hl_fcmp rfl (by decide) rfl rfl (by first | with_reducible assumption | exact E.refl _) (by first | with_reducible assumption | exact E.refl _) (fun hb => ?_) (fun hb => ?_) <;> (try first | exact Bool.noConfusion ((hb.symm.trans (by with_reducible assumption)) : true = false) | exact Bool.noConfusion ((hb.symm.trans (by with_reducible assumption)) : false = true))) | (refine hl_known (by decide) rfl rfl (by with_reducible_and_instances assumption) ?_) | (refine hl_knownC (by decide) rfl (by with_reducible_and_instances assumption) ?_) | (refine hl_val (by decide) (g_index_tab us (by decide +kernel) rfl rfl (by with_reducible assumption)) ?_) | (refine hl_fneg (by decide) rfl (by first | with_reducible assumption | exact E.refl _) ?_; intro r e' he hr) | (refine hl_run rfl ?_) | (refine hl_pass (by decide) rfl ?_) | (refine hl_pick_t (by decide) rfl rfl ?_) | (refine hl_pick_f (by decide) rfl rfl ?_) | (refine hl_not (by decide) rfl ?_) | (refine hl_nil ?_) | (refine hq_then (by with_reducible assumption) ?_) | (refine hw_seq (fun K hK => ?_)) | (refine hw_region ?_) | (refine hw_cond_t rfl ?_) | (refine hw_cond_f rfl ?_) | (refine hw_ret ?_) | (refine hw_block ?_) | (refine hw_skip ?_) | (refine hw_exit ?_) | (refine hq_then_ret ?_) | (refine hq_then_exit ?_) | (refine hq_block ?_) | (refine hq_block_ret ?_) | (refine hq_block_exit ?_) | (refine hq_block_exit_ne (by decide) ?_))
  all_goals (refine hq_ret1 rfl rfl ⟨rfl, (by with_reducible assumption)⟩)

set_option maxRecDepth 100000 in
set_option maxHeartbeats 4000000 in
theorem c_len64_001 (x : Nat) (c : Nat) (k1 : Known Tryd.prog .geq (.int .u64 x) (.int .u64 4294967296) (.bool false)) (k2 : Known Tryd.prog .geq (.int .u64 x) (.int .u64 65536) (.bool false)) (k3 : Known Tryd.prog .geq (.int .u64 x) (.int .u64 256) (.bool true)) (kc : Known Tryd.prog .shr (.int .u64 x) (.int .u64 8) (.int .u64 c)) (kn3 : Known Tryd.prog .add (.int .i64 0) (.int .i64 8) (.int .i64 8)) (k8 : KnownC Tryd.prog 37 5 (.int .u64 c) (.int .u8 c)) (hc : c < 256) (kl : KnownC Tryd.prog 5 3 (.int .u8 (bl c : Nat)) (.int .i64 (bl c : Nat))) (k : Nat) (ke : Known Tryd.prog .add (.int .i64 8) (.int .i64 (bl c : Nat)) (.int .i64 k)) (w0 w : World) (hs : St w0 w) : Calls Tryd.prog 83 #[.int .u64 x] w (RI k w0) := by
  have us : Tryd.prog.underlying 9 = some .string := by kernel_rfl
  refine calls_hw (n := _) (l := [(0, .int .u64 x)]) Tryd.func83 rfl Tryd.ntmps83 (by simp) (by intro i v h; rcases i with _ | _ | _ | i <;> simp_all [List.lookup]) ?_
  repeat' (first | (refine hl_move (by decide) rfl ?_) | (refine hl_assign (by decide) rfl ?_) | (refine hl_fval (by decide) rfl rfl (by with_reducible_and_instances assumption) ?_) | (refine hl_fop rfl (by decide) rfl rfl (by first | with_reducible assumption | exact E.refl _) (by first | with_reducible assumption | exact E.refl _) (by with_reducible assumption) ?_; intro r w' e' he hr hs) | (refine hl_fcmp rfl (by decide) rfl rfl (by first | with_reducible assumption | exact E.refl _) (by first | with_reducible assumption | exact E.refl _) (fun hb => ?_) (fun hb => ?_) <;> (try first | exact Bool.noConfusion ((hb.symm.trans (by with_reducible assumption)) : true = false) | exact Bool.noConfusion ((hb.symm.trans (by with_reducible assumption)) : false = true))) | (refine hl_known (by decide) rfl rfl (by with_reducible_and_instances assumption) ?_) | (refine hl_knownC (by decide) rfl (by with_reducible_and_instances assumption) ?_) | (refine hl_val (by decide) (g_index_tab us (by decide +kernel) rfl rfl (by with_reducible assumption)) ?_) | (refine hl_fneg (by decide) rfl (by first | with_reducible assumption | exact E.refl _) ?_; intro r e' he hr) | (refine hl_run rfl ?_) | (refine hl_pass (by decide) rfl ?_) | (refine hl_pick_t (by decide) rfl rfl ?_) | (refine hl_pick_f (by decide) rfl rfl ?_) | (refine hl_not (by decide) rfl ?_) | (refine hl_nil ?_) | (refine hq_then (by with_reducible assumption) ?_) | (refine hw_seq (fun K hK => ?_)) | (refine hw_region ?_) | (refine hw_cond_t rfl ?_) | (refine hw_cond_f rfl ?_) | (refine hw_ret ?_) | (refine hw_block ?_) | (refine hw_skip ?_) | (refine hw_exit ?_) | (refine hq_then_ret ?_) | (refine hq_then_exit ?_) | (refine hq_block ?_) | (refine hq_block_ret ?_) | (refine hq_block_exit ?_) | (refine hq_block_exit_ne (by decide) ?_))
  all_goals (refine hq_ret1 rfl rfl ⟨rfl, (by with_reducible assumption)⟩)

set_option maxRecDepth 100000 in
set_option maxHeartbeats 4000000 in
theorem c_len64_000 (x : Nat) (k1 : Known Tryd.prog .geq (.int .u64 x) (.int .u64 4294967296) (.bool false)) (k2 : Known Tryd.prog .geq (.int .u64 x) (.int .u64 65536) (.bool false)) (k3 : Known Tryd.prog .geq (.int .u64 x) (.int .u64 256) (.bool false)) (k8 : KnownC Tryd.prog 37 5 (.int .u64 x) (.int .u8 x)) (hc : x < 256) (kl : KnownC Tryd.prog 5 3 (.int .u8 (bl x : Nat)) (.int .i64 (bl x : Nat))) (k : Nat) (ke : Known Tryd.prog .add (.int .i64 0) (.int .i64 (bl x : Nat)) (.int .i64 k)) (w0 w : World) (hs : St w0 w) : Calls Tryd.prog 83 #[.int .u64 x] w (RI k w0) := by
  have us : Tryd.prog.underlying 9 = some .string := by kernel_rfl
  refine calls_hw (n := _) (l := [(0, .int .u64 x)]) Tryd.func83 rfl Tryd.ntmps83 (by simp) (by intro i v h; rcases i with _ | _ | _ | i <;> simp_all [List.lookup]) ?_
  repeat' (first | (refine hl_move (by decide) rfl ?_) | (refine hl_assign (by decide) rfl ?_) | (refine hl_fval (by decide) rfl rfl (by with_reducible_and_instances assumption) ?_) | (refine hl_fop rfl (by decide) rfl rfl (by first | with_reducible assumption | exact E.refl _) (by first | with_reducible assumption | exact E.refl _) (by with_reducible assumption) ?_; intro r w' e' he hr hs) | (refine hl_fcmp rfl (by decide) rfl rfl (by first | with_reducible assumption | exact E.refl _) (by first | with_reducible assumption | exact E.refl _) (fun hb => ?_) (fun hb => ?_) <;> (try first | exact Bool.noConfusion ((hb.symm.trans (by with_reducible assumption)) : true = false) | exact Bool.noConfusion ((hb.symm.trans (by with_reducible assumption)) : false = true))) | (refine hl_known (by decide) rfl rfl (by with_reducible_and_instances assumption) ?_) | (refine hl_knownC (by decide) rfl (by with_reducible_and_instances assumption) ?_) | (refine hl_val (by decide) (g_index_tab us (by decide +kernel) rfl rfl (by with_reducible assumption)) ?_) | (refine hl_fneg (by decide) rfl (by first | with_reducible assumption | exact E.refl _) ?_; intro r e' he hr) | (refine hl_run rfl ?_) | (refine hl_pass (by decide) rfl ?_) | (refine hl_pick_t (by decide) rfl rfl ?_) | (refine hl_pick_f (by decide) rfl rfl ?_) | (refine hl_not (by decide) rfl ?_) | (refine hl_nil ?_) | (refine hq_then (by with_reducible assumption) ?_) | (refine hw_seq (fun K hK => ?_)) | (refine hw_region ?_) | (refine hw_cond_t rfl ?_) | (refine hw_cond_f rfl ?_) | (refine hw_ret ?_) | (refine hw_block ?_) | (refine hw_skip ?_) | (refine hw_exit ?_) | (refine hq_then_ret ?_) | (refine hq_then_exit ?_) | (refine hq_block ?_) | (refine hq_block_ret ?_) | (refine hq_block_exit ?_) | (refine hq_block_exit_ne (by decide) ?_))
  all_goals (refine hq_ret1 rfl rfl ⟨rfl, (by with_reducible assumption)⟩)


theorem geq_t {P : Program} {p q : Nat} (h : q ≤ p) : Known P .geq (.int .u64 p) (.int .u64 q) (.bool true) := by
  have := ki_cmp (P := P) (op := .geq) rfl .u64 p q
  rw [show decide ((q : Int) ≤ p) = true from decide_eq_true (by omega)] at this; exact this
theorem geq_f {P : Program} {p q : Nat} (h : p < q) : Known P .geq (.int .u64 p) (.int .u64 q) (.bool false) := by
  have := ki_cmp (P := P) (op := .geq) rfl .u64 p q
  rw [show decide ((q : Int) ≤ p) = false from decide_eq_false (by omega)] at this; exact this
theorem shr_k {P : Program} {p s : Nat} (hp : U64 p) (hs : s ≤ 64) : Known P .shr (.int .u64 p) (.int .u64 s) (.int .u64 (p / 2 ^ s : Nat)) := by
  have := (ki_u64 (P := P) (op := .shr) rfl hp (show U64 s from Nat.lt_of_le_of_lt hs (by decide))).1
  unfold ushr at this
  rw [Nat.min_eq_left hs] at this; exact this

theorem c_len64 (x : Nat) (hx : U64 x) (w0 w : World) (hs : St w0 w) : Calls Tryd.prog 83 #[.int .u64 x] w (RI (lenF x) w0) := by
  have hC := lenC_lt hx
  have hbl := bl_le hC
  have hA64 : U64 (lenA x) := by unfold U64 lenA at *; split <;> omega
  have hB64 : U64 (lenB x) := by unfold U64 at *; unfold lenB; split <;> omega
  have k8 := conv_u64_u8 (lenC x) hC
  have kl := conv_u8_int (bl (lenC x)) (by omega)
  have ke : ∀ n : Nat, n ≤ 56 → Known Tryd.prog .add (.int .i64 n) (.int .i64 (bl (lenC x) : Nat)) (.int .i64 (n + bl (lenC x) : Nat)) := fun n hn => ki_add_i64 n _ (by omega)
  by_cases h1 : 4294967296 ≤ x
  · have eA : lenA x = x / 2 ^ 32 := by unfold lenA; rw [if_pos h1]
    by_cases h2 : 65536 ≤ lenA x
    · have eB : lenB x = lenA x / 2 ^ 16 := by unfold lenB; rw [if_pos h2]
      by_cases h3 : 256 ≤ lenB x
      · have eC : lenC x = lenB x / 2 ^ 8 := by unfold lenC; rw [if_pos h3]
        exact c_len64_111 x (lenA x) (lenB x) (lenC x) (geq_t h1) (by rw [eA]; exact shr_k hx (by decide)) (geq_t h2) (by rw [eB]; exact shr_k hA64 (by decide)) (ki_add_i64 32 16 (by decide)) (geq_t h3) (by rw [eC]; exact shr_k hB64 (by decide)) (ki_add_i64 48 8 (by decide)) k8 hC kl (lenF x) (by unfold lenF lenN; rw [if_pos h1, if_pos h2, if_pos h3]; exact ke 56 (by decide)) w0 w hs
      · have eC : lenC x = lenB x := by unfold lenC; rw [if_neg h3]
        rw [eC] at k8 hC kl ke
        exact c_len64_110 x (lenA x) (lenB x) (geq_t h1) (by rw [eA]; exact shr_k hx (by decide)) (geq_t h2) (by rw [eB]; exact shr_k hA64 (by decide)) (ki_add_i64 32 16 (by decide)) (geq_f (q := 256) (by omega)) k8 hC kl (lenF x) (by unfold lenF lenN; rw [if_pos h1, if_pos h2, if_neg h3, eC]; exact ke 48 (by decide)) w0 w hs
    · have eB : lenB x = lenA x := by unfold lenB; rw [if_neg h2]
      rw [eB] at hB64
      by_cases h3 : 256 ≤ lenB x
      · have eC : lenC x = lenA x / 2 ^ 8 := by unfold lenC; rw [if_pos h3, eB]
        have h3' := h3
        rw [eB] at h3'
        exact c_len64_101 x (lenA x) (lenC x) (geq_t h1) (by rw [eA]; exact shr_k hx (by decide)) (geq_f (q := 65536) (by omega)) (geq_t h3') (by rw [eC]; exact shr_k hA64 (by decide)) (ki_add_i64 32 8 (by decide)) k8 hC kl (lenF x) (by unfold lenF lenN; rw [if_pos h1, if_neg h2, if_pos h3]; exact ke 40 (by decide)) w0 w hs
      · have eC : lenC x = lenA x := by unfold lenC; rw [if_neg h3, eB]
        rw [eC] at k8 hC kl ke
        exact c_len64_100 x (lenA x) (geq_t h1) (by rw [eA]; exact shr_k hx (by decide)) (geq_f (q := 65536) (by omega)) (geq_f (q := 256) hC) k8 hC kl (lenF x) (by unfold lenF lenN; rw [if_pos h1, if_neg h2, if_neg h3, eC]; exact ke 32 (by decide)) w0 w hs
  · have eA : lenA x = x := by unfold lenA; rw [if_neg h1]
    by_cases h2 : 65536 ≤ lenA x
    · have eB : lenB x = x / 2 ^ 16 := by unfold lenB; rw [if_pos h2, eA]
      have h2' := h2
      rw [eA] at h2'
      by_cases h3 : 256 ≤ lenB x
      · have eC : lenC x = lenB x / 2 ^ 8 := by unfold lenC; rw [if_pos h3]
        exact c_len64_011 x (lenB x) (lenC x) (geq_f (q := 4294967296) (by omega)) (geq_t h2') (by rw [eB]; exact shr_k hx (by decide)) (ki_add_i64 0 16 (by decide)) (geq_t h3) (by rw [eC]; exact shr_k hB64 (by decide)) (ki_add_i64 16 8 (by decide)) k8 hC kl (lenF x) (by unfold lenF lenN; rw [if_neg h1, if_pos h2, if_pos h3]; exact ke 24 (by decide)) w0 w hs
      · have eC : lenC x = lenB x := by unfold lenC; rw [if_neg h3]
        rw [eC] at k8 hC kl ke
        exact c_len64_010 x (lenB x) (geq_f (q := 4294967296) (by omega)) (geq_t h2') (by rw [eB]; exact shr_k hx (by decide)) (ki_add_i64 0 16 (by decide)) (geq_f (q := 256) (by omega)) k8 hC kl (lenF x) (by unfold lenF lenN; rw [if_neg h1, if_pos h2, if_neg h3, eC]; exact ke 16 (by decide)) w0 w hs
    · have eB : lenB x = x := by unfold lenB; rw [if_neg h2, eA]
      rw [eA] at h2
      by_cases h3 : 256 ≤ lenB x
      · have eC : lenC x = x / 2 ^ 8 := by unfold lenC; rw [if_pos h3, eB]
        have h3' := h3
        rw [eB] at h3'
        exact c_len64_001 x (lenC x) (geq_f (q := 4294967296) (by omega)) (geq_f (q := 65536) (by omega)) (geq_t h3') (by rw [eC]; exact shr_k hx (by decide)) (ki_add_i64 0 8 (by decide)) k8 hC kl (lenF x) (by unfold lenF lenN; rw [if_neg h1, eA, if_neg h2, if_pos h3]; exact ke 8 (by decide)) w0 w hs
      · have eC : lenC x = x := by unfold lenC; rw [if_neg h3, eB]
        rw [eC] at k8 hC kl ke
        exact c_len64_000 x (geq_f (q := 4294967296) (by omega)) (geq_f (q := 65536) (by omega)) (geq_f (q := 256) hC) k8 hC kl (lenF x) (by unfold lenF lenN; rw [if_neg h1, eA, if_neg h2, if_neg h3, eC]; exact ke 0 (by decide)) w0 w hs


set_option maxRecDepth 100000 in
set_option maxHeartbeats 4000000 in
theorem c_lz64 (x : Nat) (hx : U64 x) (w0 w : World) (hs : St w0 w) : Calls Tryd.prog 74 #[.int .u64 x] w (RI (lzF x) w0) := by
  have ks : Known Tryd.prog .sub (.int .i64 64) (.int .i64 (lenF x : Nat)) (.int .i64 (lzF x : Nat)) := ki_sub_i64 64 (lenF x) (lenF_le hx) (by decide)
  refine calls_hw (n := _) (l := [(0, .int .u64 x)]) Tryd.func74 rfl Tryd.ntmps74 (by simp) (by intro i v h; rcases i with _ | _ | _ | i <;> simp_all [List.lookup]) ?_
  repeat' (first | (refine hl_move (by decide) rfl ?_) | (refine hl_assign (by decide) rfl ?_) | (refine hl_fval (by decide) rfl rfl (by with_reducible_and_instances assumption) ?_) | (refine hl_fop rfl (by decide) rfl rfl (by first | with_reducible assumption | exact E.refl _) (by first | with_reducible assumption | exact E.refl _) (by with_reducible assumption) ?_; intro r w' e' he hr hs) | (refine hl_fcmp rfl (by decide) rfl rfl (by first | with_reducible assumption | exact E.refl _) (by first | with_reducible assumption | exact E.refl _) (fun hb => ?_) (fun hb => ?_) <;> (try first | exact Bool.noConfusion ((hb.symm.trans (by with_reducible assumption)) : true = false) | exact Bool.noConfusion ((hb.symm.trans (by with_reducible assumption)) : false = true))) | (refine hl_known (by decide) rfl rfl (by with_reducible_and_instances assumption) ?_) | (refine hl_knownC (by decide) rfl (by with_reducible_and_instances assumption) ?_) | (refine hl_fneg (by decide) rfl (by first | with_reducible assumption | exact E.refl _) ?_; intro r e' he hr) | (refine hl_run rfl ?_) | (refine hl_pass (by decide) rfl ?_) | (refine hl_pick_t (by decide) rfl rfl ?_) | (refine hl_pick_f (by decide) rfl rfl ?_) | (refine hl_not (by decide) rfl ?_) | (refine hl_callI (by decide) en_len64 (args1 rfl) (c_len64 x hx _ _ (by with_reducible assumption)) ?_; intro w' hs) | (refine hl_nil ?_) | (refine hq_then (by with_reducible assumption) ?_) | (refine hw_seq (fun K hK => ?_)) | (refine hw_region ?_) | (refine hw_cond_t rfl ?_) | (refine hw_cond_f rfl ?_) | (refine hw_ret ?_) | (refine hw_block ?_) | (refine hw_skip ?_) | (refine hw_exit ?_) | (refine hq_then_ret ?_) | (refine hq_then_exit ?_) | (refine hq_block ?_) | (refine hq_block_ret ?_) | (refine hq_block_exit ?_) | (refine hq_block_exit_ne (by decide) ?_))
  all_goals (refine hq_ret1 rfl rfl ⟨rfl, (by with_reducible assumption)⟩)
theorem en_lz64 : Enters Tryd.prog 74 := enters_of Tryd.func74 (by kernel_rfl) (by kernel_rfl)

end Go.Proofs.YtgbdplmpojkklaaDoor
