/- The plain family, part 7: chains and their steps; FnChains. -/
import Derived.Test.YtnmodbmaokilaaaGreatDoorP6
namespace Go.Proofs.YtnmodbmaokilaaaGreatDoor
open Go Go.Kd
set_option maxRecDepth 100000

/-! ### The plain law: chains are identical exactly if their steps are -/
def st (k : Int) : Int × Int := (stA k, stB k)
def cT : List Int → Int → PT
  | [], n => .basic (n % 20)
  | a :: r, n => stepT a (cT r n)
theorem chainT_cT (l : List Int) (n : Int) : chainT l n = cT l.reverse n := by
  unfold chainT
  rw [List.foldl_eq_foldr_reverse]
  induction l.reverse with
  | nil => rfl
  | cons a r ih => simp only [List.foldr_cons, cT, ih]

theorem stepT_ok {k : Int} {t : PT} (h : t.ok) : (stepT k t).ok := by
  unfold stepT
  split
  · exact h
  split
  · exact h
  split
  · exact ⟨by omega, h⟩
  split
  · exact ⟨by omega, h⟩
  · exact ⟨by unfold PT.ok; omega, h⟩
theorem cT_ok (l : List Int) (n : Int) : (cT l n).ok := by
  induction l with
  | nil => unfold cT PT.ok; omega
  | cons a r ih => exact stepT_ok ih
theorem chainT_ok (l : List Int) (n : Int) : (chainT l n).ok := by rw [chainT_cT]; exact cT_ok _ _

theorem stepT_gt (k : Int) (t : PT) : (stepT k t).gt =
    if stA k = 0 then .ptr t.gt else if stA k = 1 then .slice t.gt else if stA k = 2 then .array (stB k) t.gt else if stA k = 3 then .chan (stB k) t.gt else .map (.basic (stB k + 1)) t.gt := by
  unfold stepT stA stB
  by_cases h0 : k % 100 % 5 = 0
  · simp [h0, PT.gt]
  by_cases h1 : k % 100 % 5 = 1
  · simp [h1, PT.gt]
  by_cases h2 : k % 100 % 5 = 2
  · simp [h2, PT.gt]
  by_cases h3 : k % 100 % 5 = 3
  · simp [h3, PT.gt]
  have h4 : k % 100 % 5 = 4 := by omega
  simp [h4, PT.gt]

theorem st_low (k : Int) : stA k = 0 ∨ stA k = 1 ∨ stA k = 2 ∨ stA k = 3 ∨ stA k = 4 := by unfold stA; omega
theorem stB_low (k : Int) (h : stA k = 0 ∨ stA k = 1) : stB k = 0 := by
  unfold stA at h; unfold stB
  rw [if_neg (by omega), if_neg (by omega), if_neg (by omega)]

theorem step_iff (a b : Int) (t u : PT) : (stepT a t).gt = (stepT b u).gt ↔ st a = st b ∧ t.gt = u.gt := by
  rw [stepT_gt, stepT_gt]
  have ha := stB_low a
  have hb := stB_low b
  unfold st
  generalize stB a = B at *
  generalize stB b = B' at *
  rcases st_low a with h | h | h | h | h <;> rcases st_low b with h' | h' | h' | h' | h' <;> simp [h, h'] at * <;> simp [*]

theorem cT_iff : ∀ (l k : List Int) (n m : Int), (cT l n).gt = (cT k m).gt ↔ l.map st = k.map st ∧ orig (n % 20) = orig (m % 20)
  | [], [], n, m => by simp [cT, PT.gt]
  | [], b :: k, n, m => by
    simp only [cT, List.map_nil, List.map_cons, reduceCtorEq, false_and, iff_false]
    rw [stepT_gt]
    unfold PT.gt
    split <;> (try split) <;> (try split) <;> (try split) <;> simp
  | a :: l, [], n, m => by
    simp only [cT, List.map_nil, List.map_cons, reduceCtorEq, false_and, iff_false]
    rw [stepT_gt]
    unfold PT.gt
    split <;> (try split) <;> (try split) <;> (try split) <;> simp
  | a :: l, b :: k, n, m => by
    simp only [cT, List.map_cons, List.cons.injEq]
    rw [step_iff, cT_iff l k n m, and_assoc]

theorem chain_iff (l k : List Int) (n m : Int) : (chainT l n).gt = (chainT k m).gt ↔ l.map st = k.map st ∧ orig (n % 20) = orig (m % 20) := by
  rw [chainT_cT, chainT_cT, cT_iff, List.map_reverse, List.map_reverse, List.reverse_inj]

/-! ### The walk -/
theorem yld_min {P : Program} {e : Env} {w : World} {d : Option Tmp} {ty : TypeId} {pos : String} {aft : Array Edge} {g : Option (Nat × Bool)} {x y : Operand} {tys : Array TypeId} {a b : Int}
    (hx : ev e x = some (.int .i64 a)) (hy : ev e y = some (.int .i64 b)) :
    Yld P e ⟨d, .call ⟨.builtin .min, #[x, y], tys⟩, ty, pos, aft, g⟩ (.int .i64 (if b < a then b else a)) w := ⟨fun ρ hρ w' _ => by
  simp [execOp, resolve, invoke, builtin, Builtin.min_, Builtin.min2, hρ x _ hx, hρ y _ hy]⟩

/-- the steps up to i are the same -/
def sameTo (l k : List Int) (n m : Int) (i : Nat) : Bool :=
  (((l.length : Int) == (k.length : Int)) && orig (n % 20) == orig (m % 20)) && decide ((l.take i).map st = (k.take i).map st)

theorem sameTo_zero (l k : List Int) (n m : Int) : sameTo l k n m 0 = (((l.length : Int) == (k.length : Int)) && orig (n % 20) == orig (m % 20)) := by simp [sameTo]
theorem sameTo_succ (l k : List Int) (n m : Int) (i : Nat) (h1 : i < l.length) (h2 : i < k.length) :
    sameTo l k n m (i + 1) = (sameTo l k n m i && (stA l[i] == stA k[i] && stB l[i] == stB k[i])) := by
  have e1 : l.take (i + 1) = l.take i ++ [l[i]] := by simp [h1]
  have e2 : k.take (i + 1) = k.take i ++ [k[i]] := by simp [h2]
  unfold sameTo
  rw [e1, e2, List.map_append, List.map_append, Bool.eq_iff_iff]
  simp only [decide_eq_true_eq, Bool.and_eq_true, List.map_cons, List.map_nil]
  constructor
  · rintro ⟨a, h⟩
    obtain ⟨h3, h4⟩ := List.append_inj' h rfl
    simp [st] at h4
    exact ⟨⟨a, h3⟩, by simp [h4]⟩
  · rintro ⟨⟨a, h3⟩, h4, h5⟩
    exact ⟨a, by rw [h3]; simp at h4 h5; simp [st, h4, h5]⟩
theorem sameTo_all (l k : List Int) (n m : Int) (i : Nat) (hi : i = if k.length < l.length then k.length else l.length) :
    sameTo l k n m i = decide ((chainT l n).gt = (chainT k m).gt) := by
  rw [Bool.eq_iff_iff, decide_eq_true_eq, chain_iff]
  unfold sameTo
  simp only [Bool.and_eq_true, beq_iff_eq, decide_eq_true_eq]
  constructor
  · rintro ⟨⟨h1, h2⟩, h3⟩
    rw [if_neg (by omega)] at hi
    rw [List.take_of_length_le (by omega), List.take_of_length_le (by omega)] at h3
    exact ⟨h3, h2⟩
  · rintro ⟨h1, h2⟩
    have h3 : l.length = k.length := by have := congrArg List.length h1; simpa using this
    refine ⟨⟨by omega, h2⟩, ?_⟩
    rw [List.map_take, List.map_take, h1]

set_option maxHeartbeats 4000000 in
theorem c_FnChains (l : List Int) (sl : Value) (k : List Int) (sk : Value) (n m : Int) (w : World) (hl : l.length ≤ 9223372036854775807) (hI : Ints w sl l) (hk : k.length ≤ 9223372036854775807) (hK : Ints w sk k) :
    Calls Tryz.prog 4 #[sl, sk, .int .i64 n, .int .i64 m] w (Ret fun r w' => r = .bool true ∧ Ext w w') := by
  obtain ⟨sa, sc, rfl⟩ := hI.shape
  obtain ⟨ka, kc, rfl⟩ := hK.shape
  have hmin : ∃ M : Nat, (if (k.length : Int) < l.length then (k.length : Int) else l.length) = (M : Int) ∧ M = (if k.length < l.length then k.length else l.length) := by
    by_cases h : k.length < l.length
    · exact ⟨k.length, by rw [if_pos (by omega)], by rw [if_pos h]⟩
    · exact ⟨l.length, by rw [if_neg (by omega)], by rw [if_neg h]⟩
  obtain ⟨M, hM, hM'⟩ := hmin
  have hMl : M ≤ l.length ∧ M ≤ k.length := by rw [hM']; split <;> omega
  refine W.enter (args := [.slice sa l.length sc, .slice ka k.length kc, .int .i64 n, .int .i64 m]) Tryz.func4 rfl Tryz.ntmps4 rfl rfl ?_
  (repeat (first
      | (guard_target =~ gU _; first
          | (guard_target =~ gU []; first | refine WU.nilk ?_ )
          | refine WU.yld rfl rfl rfl (by first | (guard_target =~ gY (.move _); exact ze rfl) | (guard_target =~ gY (.assign _); exact yf rfl) | (guard_target =~ gY (.binOp .gtr _ _ _ _); exact yv rfl rfl) | (guard_target =~ gY (.call _); first | exact yx rfl ) ) ?_
          )
      | (guard_target =~ gW (.seq _ _); refine W.seq ?_)
      | (guard_target =~ gW (.region _ _ false); refine W.reg ?_)
      ))
  by_cases h1 : l.length > 2147483647
  · rw [show decide ((l.length : Int) > 2147483647) = true from decide_eq_true (by omega)]
    (repeat (first
        | (guard_target =~ gU _; first
            | (guard_target =~ gU []; first | refine WU.nilk ?_ )
            | refine WU.yld rfl rfl rfl (by first | (guard_target =~ gY (.move _); exact ze rfl) | (guard_target =~ gY (.assign _); exact yf rfl) | (guard_target =~ gY (.pick _ _ _); first | exact zv rfl rfl ) ) ?_
            | refine WU.skip rfl rfl rfl ?_)
        | (guard_target =~ gW (.seq _ _); refine W.seq ?_)
        | (guard_target =~ gW (.region _ _ false); refine W.reg ?_)
        | (guard_target =~ gW (.cond _ _ _); first | refine W.cond_t rfl ?_ )
        | (guard_target =~ gW .ret; refine W.ret ?_)
        | (guard_target =~ gT .ret; refine thn_ret ?_)
        ))
    exact fin1 (.inl rfl) rfl rfl ⟨rfl, Ext.rfl' _⟩
  rw [show decide ((l.length : Int) > 2147483647) = false from decide_eq_false (by omega)]
  (repeat (first
      | (guard_target =~ gU _; first
          | (guard_target =~ gU []; first | refine WU.nilk ?_ )
          | refine WU.yld rfl rfl rfl (by first | (guard_target =~ gY (.move _); exact ze rfl) | (guard_target =~ gY (.pick _ _ _); first | exact zu rfl rfl ) | (guard_target =~ gY (.binOp .gtr _ _ _ _); exact yv rfl rfl) | (guard_target =~ gY (.call _); first | exact yx rfl ) ) ?_
          )
      ))
  by_cases h2 : k.length > 2147483647
  · rw [show decide ((k.length : Int) > 2147483647) = true from decide_eq_true (by omega)]
    (repeat (first
        | (guard_target =~ gU _; first
            | (guard_target =~ gU []; first | refine WU.nilk ?_ )
            | refine WU.yld rfl rfl rfl (by first | (guard_target =~ gY (.assign _); exact yf rfl) ) ?_
            )
        | (guard_target =~ gW (.seq _ _); refine W.seq ?_)
        | (guard_target =~ gW (.region _ _ false); refine W.reg ?_)
        | (guard_target =~ gW (.cond _ _ _); first | refine W.cond_t rfl ?_ )
        | (guard_target =~ gW .ret; refine W.ret ?_)
        | (guard_target =~ gT .ret; refine thn_ret ?_)
        ))
    exact fin1 (.inl rfl) rfl rfl ⟨rfl, Ext.rfl' _⟩
  rw [show decide ((k.length : Int) > 2147483647) = false from decide_eq_false (by omega)]
  have hz := sameTo_zero l k n m
  (repeat (first
      | (guard_target =~ gU _; first
          | refine WU.yld rfl rfl rfl (by first | (guard_target =~ gY (.move _); exact ze rfl) | (guard_target =~ gY (.binOp .eql _ _ _ _); first | exact yl rfl rfl ) | (guard_target =~ gY (.call _); first | exact yx rfl ) ) ?_
          )
      | (guard_target =~ gW (.seq _ _); refine W.seq ?_)
      | (guard_target =~ gW (.region _ _ false); refine W.reg ?_)
      | (guard_target =~ gW (.cond _ _ _); first | refine W.cond_f rfl ?_)
      | (guard_target =~ gW .skip; refine W.skip ?_)
      ))
  cases hb : ((l.length : Int) == (k.length : Int))
  · rw [hb, Bool.false_and] at hz
    (repeat (first
        | (guard_target =~ gU _; first
            | (guard_target =~ gU []; first | refine WU.nilk ?_ )
            | refine WU.yld rfl rfl rfl (by first | (guard_target =~ gY (.move _); exact ze rfl) | (guard_target =~ gY (.assign _); exact yf rfl) | (guard_target =~ gY (.pick _ _ _); first | exact zu rfl rfl ) | (guard_target =~ gY (.call _); first | exact yx rfl ) ) ?_
            | refine WU.skip rfl rfl rfl ?_)
        | (guard_target =~ gW (.seq _ _); refine W.seq ?_)
        | (guard_target =~ gW (.region _ _ false); refine W.reg ?_)
        ))
    refine WU.yld rfl rfl rfl (yld_min rfl rfl) ?_
    rw [hM]
    (repeat (first
        | (guard_target =~ gU _; first
            | (guard_target =~ gU []; first | refine WU.nilk ?_ )
            | refine WU.yld rfl rfl rfl (by first | (guard_target =~ gY (.move _); exact ze rfl) ) ?_
            )
        | (guard_target =~ gW (.block _ _); refine W.block ?_)
        ))
    refine W.loop (σ := Nat) (fun i => [(38, .int .i64 i), (37, .int .i64 M), (9, .bool (sameTo l k n m i)), (0, .slice sa l.length sc), (1, .slice ka k.length kc), (2, .int .i64 n), (3, .int .i64 m)])
      (fun i D w' => D = [] ∧ i ≤ M ∧ Ext w w') (fun i => M - i) 0 ⟨rfl, Nat.zero_le _, Ext.rfl' _⟩ (by exact sub_of ⟨rfl, rfl, by show _ = some (Value.bool (sameTo l k n m 0)); rw [hz]; rfl, rfl, rfl, rfl, rfl, trivial⟩) ?_
    rintro i D wr ⟨rfl, hi, xr⟩
    (repeat (first
        | (guard_target =~ gU _; first
            | (guard_target =~ gU []; first | refine WU.nilk ?_ )
            | refine WU.yld rfl rfl rfl (by first | (guard_target =~ gY (.binOp .lss _ _ _ _); exact zc rfl rfl) ) ?_
            )
        | (guard_target =~ gW (.seq _ _); refine W.seq ?_)
        | (guard_target =~ gW (.region _ _ false); refine W.reg ?_)
        ))
    by_cases hlt : i < M
    · rw [show decide ((i : Int) < (M : Int)) = true from decide_eq_true (by omega)]
      have hil : i < l.length := by omega
      have hik : i < k.length := by omega
      have hsu := sameTo_succ l k n m i hil hik
      (repeat (first
          | (guard_target =~ gU _; first
              | (guard_target =~ gU []; first | refine WU.nilk ?_ )
              | refine WU.yld rfl rfl rfl (by first | (guard_target =~ gY (.move _); exact ze rfl) | (guard_target =~ gY (.assign _); exact yf rfl) ) ?_
              )
          | (guard_target =~ gW (.seq _ _); refine W.seq ?_)
          | (guard_target =~ gW (.region _ _ false); refine W.reg ?_)
          | (guard_target =~ gW (.cond _ _ _); first | refine W.cond_t rfl ?_ )
          | (guard_target =~ gW (.block _ _); refine W.block ?_)
          | (guard_target =~ gW .skip; refine W.skip ?_)
          ))
      refine W.regD [(0, .q), (1, .q), (2, .q), (3, .q), (4, .q), (5, .q), (7, .q), (8, .q), (9, .q), (10, .q), (6, .l), (11, .l), (12, .q), (13, .q), (14, .q)] (by kernel_rfl) (by kernel_rfl) rfl ?_
      intro w2 x2 _
      (repeat (first
          | refine WD.yld rfl rfl rfl rfl (by first | (guard_target =~ gY (.move _); exact ze rfl) ) ?_
          ))
      cases hq : sameTo l k n m i
      · rw [hq, Bool.false_and] at hsu
        (repeat (first
            | (guard_target =~ WD _ _ _ _ [] _ _ _; first | refine WD.nil ?_)
            | refine WD.yld rfl rfl rfl rfl (by first | (guard_target =~ gY (.move _); exact ze rfl) | (guard_target =~ gY (.assign _); exact yf rfl) | (guard_target =~ gY (.pick _ _ _); first | exact zu rfl rfl ) ) ?_
            | refine WD.skip rfl rfl rfl rfl ?_))
        (repeat (first
            | (guard_target =~ gU _; first
                | (guard_target =~ gU []; first | refine WU.nilk ?_ )
                | refine WU.yld rfl rfl rfl (by first | (guard_target =~ gY (.move _); exact ze rfl) | (guard_target =~ gY (.binOp .add _ _ _ _); exact ya rfl rfl (by omega)) ) ?_
                )
            | (guard_target =~ gW (.region _ _ false); refine W.reg ?_)
            ))
        exact ⟨i + 1, by omega, ⟨rfl, by omega, xr.trans x2⟩, sub_of ⟨rfl, rfl, by show _ = some (Value.bool (sameTo l k n m (i + 1))); rw [hsu]; rfl, rfl, rfl, rfl, rfl, trivial⟩⟩
      · rw [hq, Bool.true_and] at hsu
        have xa := xr.trans x2
        rcases hI with ⟨_, h1, h2⟩ | ⟨b, o, c', h1, hc⟩
        · subst h2; simp at hil
        cases h1
        rcases hK with ⟨_, h1, h2⟩ | ⟨b', o', c'', h1, hc'⟩
        · subst h2; simp at hik
        cases h1
        have hc1 := xa.cell (hc i l[i] (by simp [hil]))
        have hc2 := xa.cell (hc' i k[i] (by simp [hik]))
        generalize l[i] = z1 at hc1 hsu
        generalize k[i] = z2 at hc2 hsu
        (repeat (first
            | refine WD.yld rfl rfl rfl rfl (by first | (guard_target =~ gY (.move _); exact ze rfl) | (guard_target =~ gY (.indexAddr _ _ _); exact yw rfl rfl (by omega) (by omega))) ?_
            ))
        refine WD.yld rfl rfl rfl rfl (yld_load_c rfl (by simpa using hc1)) ?_
        (repeat (first
            | refine WD.yld rfl rfl rfl rfl (by first | (guard_target =~ gY (.move _); exact ze rfl) | (guard_target =~ gY (.indexAddr _ _ _); exact yw rfl rfl (by omega) (by omega))) ?_
            ))
        refine WD.yld rfl rfl rfl rfl (yld_load_c rfl (by simpa using hc2)) ?_
        skip
        refine WD.stp rfl rfl rfl rfl (stp_call rfl (c_step z1 w2)) ?_
        rintro _ w3 ⟨rfl, x3⟩
        refine ⟨by first | assumption | exact Ext.rfl' _ | infer_instance, ?_⟩
        refine WD.stp rfl rfl rfl rfl (stp_call rfl (c_step z2 w3)) ?_
        rintro _ w4 ⟨rfl, x4⟩
        refine ⟨by first | assumption | exact Ext.rfl' _ | infer_instance, ?_⟩
        refine WD.yld rfl rfl rfl rfl (yld_eql_arr2 rfl rfl) ?_
        (repeat (first
            | (guard_target =~ WD _ _ _ _ [] _ _ _; first | refine WD.nil ?_)
            | refine WD.yld rfl rfl rfl rfl (by first | (guard_target =~ gY (.assign _); exact yf rfl) | (guard_target =~ gY (.pick _ _ _); first | exact zv rfl rfl ) ) ?_
            ))
        (repeat (first
            | (guard_target =~ gU _; first
                | (guard_target =~ gU []; first | refine WU.nilk ?_ )
                | refine WU.yld rfl rfl rfl (by first | (guard_target =~ gY (.move _); exact ze rfl) | (guard_target =~ gY (.binOp .add _ _ _ _); exact ya rfl rfl (by omega)) ) ?_
                )
            | (guard_target =~ gW (.region _ _ false); refine W.reg ?_)
            ))
        exact ⟨i + 1, by omega, ⟨rfl, by omega, xa.trans (x3.trans x4)⟩, sub_of ⟨rfl, rfl, by show _ = some (Value.bool (sameTo l k n m (i + 1))); rw [hsu]; rfl, rfl, rfl, rfl, rfl, trivial⟩⟩
    · rw [show decide ((i : Int) < (M : Int)) = false from decide_eq_false (by omega)]
      obtain rfl : i = M := by omega
      rw [sameTo_all l k n m i hM']
      (repeat (first
          | (guard_target =~ gU _; first
              | refine WU.yld rfl rfl rfl (by first | (guard_target =~ gY (.move _); exact ze rfl) ) ?_
              )
          | (guard_target =~ gW (.seq _ _); refine W.seq ?_)
          | (guard_target =~ gW (.region _ _ false); refine W.reg ?_)
          | (guard_target =~ gW (.cond _ _ _); first | refine W.cond_f rfl ?_)
          | (guard_target =~ gW (.exit _); refine W.exit ?_)
          ))
      refine WU.stp rfl rfl rfl (stp_call rfl (c_chain l n _ wr (by omega) (hI.ext xr))) ?_
      rintro _ w2 ⟨b2, k2, n2, a2, lc2, c2, rfl, hd2, x2⟩
      (repeat (first
          | (guard_target =~ gU _; first
              | refine WU.yld rfl rfl rfl (by first | (guard_target =~ gY (.move _); exact ze rfl) ) ?_
              )
          ))
      refine WU.stp rfl rfl rfl (stp_call rfl (c_chain k m _ w2 (by omega) (hK.ext (xr.trans x2)))) ?_
      rintro _ w3 ⟨b3, k3, n3, a3, lc3, c3, rfl, hd3, x3⟩
      refine WU.stp rfl rfl rfl (stp_call rfl (c_IdenticalPlain (hd2.ext x3) hd3 (chainT_ok _ _) (chainT_ok _ _))) ?_
      rintro _ w4 ⟨rfl, x4⟩
      have x0 := xr.trans (x2.trans (x3.trans x4))
      (repeat (first
          | (guard_target =~ gU _; first
              | refine WU.yld rfl rfl rfl (by first | (guard_target =~ gY (.move _); exact ze rfl) | (guard_target =~ gY (.binOp .eql _ _ _ _); first | exact yh rfl rfl ) ) ?_
              )
          ))
      rw [show (decide ((chainT l n).gt = (chainT k m).gt) == decide ((chainT l n).gt = (chainT k m).gt)) = true by simp]
      (repeat (first
          | (guard_target =~ gU _; first
              | refine WU.yld rfl rfl rfl (by first | (guard_target =~ gY (.move _); exact ze rfl) ) ?_
              )
          ))
      refine WU.stp rfl rfl rfl (stp_call rfl (c_chain l n _ w4 (by omega) (hI.ext x0))) ?_
      rintro _ w5 ⟨b5, k5, n5, a5, lc5, c5, rfl, hd5, x5⟩
      (repeat (first
          | (guard_target =~ gU _; first
              | refine WU.yld rfl rfl rfl (by first | (guard_target =~ gY (.move _); exact ze rfl) ) ?_
              )
          ))
      refine WU.stp rfl rfl rfl (stp_call rfl (c_chain l n _ w5 (by omega) (hI.ext (x0.trans x5)))) ?_
      rintro _ w6 ⟨b6, k6, n6, a6, lc6, c6, rfl, hd6, x6⟩
      refine WU.stp rfl rfl rfl (stp_call rfl (c_IdenticalPlain (hd5.ext x6) hd6 (chainT_ok _ _) (chainT_ok _ _))) ?_
      rintro _ w7 ⟨rfl, x7⟩
      (repeat (first
          | (guard_target =~ gU _; first
              | (guard_target =~ gU []; first | refine WU.nilk ?_ )
              | refine WU.yld rfl rfl rfl (by first | (guard_target =~ gY (.assign _); exact yf rfl) | (guard_target =~ gY (.pick _ _ _); first | exact zv rfl rfl ) ) ?_
              )
          | (guard_target =~ gW .ret; refine W.ret ?_)
          ))
      exact fin1 (.inl rfl) rfl rfl ⟨by simp, x0.trans (x5.trans (x6.trans x7))⟩
  · rw [hb, Bool.true_and] at hz
    (repeat (first
        | (guard_target =~ gU _; first
            | refine WU.yld rfl rfl rfl (by first | (guard_target =~ gY (.move _); exact ze rfl) ) ?_
            )
        ))
    refine WU.stp rfl rfl rfl (stp_call rfl (c_place n 20 w (by omega))) ?_
    rintro _ w2 ⟨rfl, rfl⟩
    skip
    refine WU.stp rfl rfl rfl (stp_call rfl (c_original (n % 20) w)) ?_
    rintro _ w4 ⟨rfl, rfl⟩
    (repeat (first
        | (guard_target =~ gU _; first
            | refine WU.yld rfl rfl rfl (by first | (guard_target =~ gY (.move _); exact ze rfl) ) ?_
            )
        ))
    refine WU.stp rfl rfl rfl (stp_call rfl (c_place m 20 w (by omega))) ?_
    rintro _ w2 ⟨rfl, rfl⟩
    skip
    refine WU.stp rfl rfl rfl (stp_call rfl (c_original (m % 20) w)) ?_
    rintro _ w4 ⟨rfl, rfl⟩
    (repeat (first
        | (guard_target =~ gU _; first
            | (guard_target =~ gU []; first | refine WU.nilk ?_ )
            | refine WU.yld rfl rfl rfl (by first | (guard_target =~ gY (.move _); exact ze rfl) | (guard_target =~ gY (.assign _); exact yf rfl) | (guard_target =~ gY (.pick _ _ _); first | exact zv rfl rfl ) | (guard_target =~ gY (.binOp .eql _ _ _ _); first | exact yl rfl rfl ) | (guard_target =~ gY (.call _); first | exact yx rfl ) ) ?_
            )
        | (guard_target =~ gW (.seq _ _); refine W.seq ?_)
        | (guard_target =~ gW (.region _ _ false); refine W.reg ?_)
        ))
    refine WU.yld rfl rfl rfl (yld_min rfl rfl) ?_
    rw [hM]
    (repeat (first
        | (guard_target =~ gU _; first
            | (guard_target =~ gU []; first | refine WU.nilk ?_ )
            | refine WU.yld rfl rfl rfl (by first | (guard_target =~ gY (.move _); exact ze rfl) ) ?_
            )
        | (guard_target =~ gW (.block _ _); refine W.block ?_)
        ))
    refine W.loop (σ := Nat) (fun i => [(38, .int .i64 i), (37, .int .i64 M), (9, .bool (sameTo l k n m i)), (0, .slice sa l.length sc), (1, .slice ka k.length kc), (2, .int .i64 n), (3, .int .i64 m)])
      (fun i D w' => D = [] ∧ i ≤ M ∧ Ext w w') (fun i => M - i) 0 ⟨rfl, Nat.zero_le _, Ext.rfl' _⟩ (by exact sub_of ⟨rfl, rfl, by show _ = some (Value.bool (sameTo l k n m 0)); rw [hz]; rfl, rfl, rfl, rfl, rfl, trivial⟩) ?_
    rintro i D wr ⟨rfl, hi, xr⟩
    (repeat (first
        | (guard_target =~ gU _; first
            | (guard_target =~ gU []; first | refine WU.nilk ?_ )
            | refine WU.yld rfl rfl rfl (by first | (guard_target =~ gY (.binOp .lss _ _ _ _); exact zc rfl rfl) ) ?_
            )
        | (guard_target =~ gW (.seq _ _); refine W.seq ?_)
        | (guard_target =~ gW (.region _ _ false); refine W.reg ?_)
        ))
    by_cases hlt : i < M
    · rw [show decide ((i : Int) < (M : Int)) = true from decide_eq_true (by omega)]
      have hil : i < l.length := by omega
      have hik : i < k.length := by omega
      have hsu := sameTo_succ l k n m i hil hik
      (repeat (first
          | (guard_target =~ gU _; first
              | (guard_target =~ gU []; first | refine WU.nilk ?_ )
              | refine WU.yld rfl rfl rfl (by first | (guard_target =~ gY (.move _); exact ze rfl) | (guard_target =~ gY (.assign _); exact yf rfl) ) ?_
              )
          | (guard_target =~ gW (.seq _ _); refine W.seq ?_)
          | (guard_target =~ gW (.region _ _ false); refine W.reg ?_)
          | (guard_target =~ gW (.cond _ _ _); first | refine W.cond_t rfl ?_ )
          | (guard_target =~ gW (.block _ _); refine W.block ?_)
          | (guard_target =~ gW .skip; refine W.skip ?_)
          ))
      refine W.regD [(0, .q), (1, .q), (2, .q), (3, .q), (4, .q), (5, .q), (7, .q), (8, .q), (9, .q), (10, .q), (6, .l), (11, .l), (12, .q), (13, .q), (14, .q)] (by kernel_rfl) (by kernel_rfl) rfl ?_
      intro w2 x2 _
      (repeat (first
          | refine WD.yld rfl rfl rfl rfl (by first | (guard_target =~ gY (.move _); exact ze rfl) ) ?_
          ))
      cases hq : sameTo l k n m i
      · rw [hq, Bool.false_and] at hsu
        (repeat (first
            | (guard_target =~ WD _ _ _ _ [] _ _ _; first | refine WD.nil ?_)
            | refine WD.yld rfl rfl rfl rfl (by first | (guard_target =~ gY (.move _); exact ze rfl) | (guard_target =~ gY (.assign _); exact yf rfl) | (guard_target =~ gY (.pick _ _ _); first | exact zu rfl rfl ) ) ?_
            | refine WD.skip rfl rfl rfl rfl ?_))
        (repeat (first
            | (guard_target =~ gU _; first
                | (guard_target =~ gU []; first | refine WU.nilk ?_ )
                | refine WU.yld rfl rfl rfl (by first | (guard_target =~ gY (.move _); exact ze rfl) | (guard_target =~ gY (.binOp .add _ _ _ _); exact ya rfl rfl (by omega)) ) ?_
                )
            | (guard_target =~ gW (.region _ _ false); refine W.reg ?_)
            ))
        exact ⟨i + 1, by omega, ⟨rfl, by omega, xr.trans x2⟩, sub_of ⟨rfl, rfl, by show _ = some (Value.bool (sameTo l k n m (i + 1))); rw [hsu]; rfl, rfl, rfl, rfl, rfl, trivial⟩⟩
      · rw [hq, Bool.true_and] at hsu
        have xa := xr.trans x2
        rcases hI with ⟨_, h1, h2⟩ | ⟨b, o, c', h1, hc⟩
        · subst h2; simp at hil
        cases h1
        rcases hK with ⟨_, h1, h2⟩ | ⟨b', o', c'', h1, hc'⟩
        · subst h2; simp at hik
        cases h1
        have hc1 := xa.cell (hc i l[i] (by simp [hil]))
        have hc2 := xa.cell (hc' i k[i] (by simp [hik]))
        generalize l[i] = z1 at hc1 hsu
        generalize k[i] = z2 at hc2 hsu
        (repeat (first
            | refine WD.yld rfl rfl rfl rfl (by first | (guard_target =~ gY (.move _); exact ze rfl) | (guard_target =~ gY (.indexAddr _ _ _); exact yw rfl rfl (by omega) (by omega))) ?_
            ))
        refine WD.yld rfl rfl rfl rfl (yld_load_c rfl (by simpa using hc1)) ?_
        (repeat (first
            | refine WD.yld rfl rfl rfl rfl (by first | (guard_target =~ gY (.move _); exact ze rfl) | (guard_target =~ gY (.indexAddr _ _ _); exact yw rfl rfl (by omega) (by omega))) ?_
            ))
        refine WD.yld rfl rfl rfl rfl (yld_load_c rfl (by simpa using hc2)) ?_
        skip
        refine WD.stp rfl rfl rfl rfl (stp_call rfl (c_step z1 w2)) ?_
        rintro _ w3 ⟨rfl, x3⟩
        refine ⟨by first | assumption | exact Ext.rfl' _ | infer_instance, ?_⟩
        refine WD.stp rfl rfl rfl rfl (stp_call rfl (c_step z2 w3)) ?_
        rintro _ w4 ⟨rfl, x4⟩
        refine ⟨by first | assumption | exact Ext.rfl' _ | infer_instance, ?_⟩
        refine WD.yld rfl rfl rfl rfl (yld_eql_arr2 rfl rfl) ?_
        (repeat (first
            | (guard_target =~ WD _ _ _ _ [] _ _ _; first | refine WD.nil ?_)
            | refine WD.yld rfl rfl rfl rfl (by first | (guard_target =~ gY (.assign _); exact yf rfl) | (guard_target =~ gY (.pick _ _ _); first | exact zv rfl rfl ) ) ?_
            ))
        (repeat (first
            | (guard_target =~ gU _; first
                | (guard_target =~ gU []; first | refine WU.nilk ?_ )
                | refine WU.yld rfl rfl rfl (by first | (guard_target =~ gY (.move _); exact ze rfl) | (guard_target =~ gY (.binOp .add _ _ _ _); exact ya rfl rfl (by omega)) ) ?_
                )
            | (guard_target =~ gW (.region _ _ false); refine W.reg ?_)
            ))
        exact ⟨i + 1, by omega, ⟨rfl, by omega, xa.trans (x3.trans x4)⟩, sub_of ⟨rfl, rfl, by show _ = some (Value.bool (sameTo l k n m (i + 1))); rw [hsu]; rfl, rfl, rfl, rfl, rfl, trivial⟩⟩
    · rw [show decide ((i : Int) < (M : Int)) = false from decide_eq_false (by omega)]
      obtain rfl : i = M := by omega
      rw [sameTo_all l k n m i hM']
      (repeat (first
          | (guard_target =~ gU _; first
              | refine WU.yld rfl rfl rfl (by first | (guard_target =~ gY (.move _); exact ze rfl) ) ?_
              )
          | (guard_target =~ gW (.seq _ _); refine W.seq ?_)
          | (guard_target =~ gW (.region _ _ false); refine W.reg ?_)
          | (guard_target =~ gW (.cond _ _ _); first | refine W.cond_f rfl ?_)
          | (guard_target =~ gW (.exit _); refine W.exit ?_)
          ))
      refine WU.stp rfl rfl rfl (stp_call rfl (c_chain l n _ wr (by omega) (hI.ext xr))) ?_
      rintro _ w2 ⟨b2, k2, n2, a2, lc2, c2, rfl, hd2, x2⟩
      (repeat (first
          | (guard_target =~ gU _; first
              | refine WU.yld rfl rfl rfl (by first | (guard_target =~ gY (.move _); exact ze rfl) ) ?_
              )
          ))
      refine WU.stp rfl rfl rfl (stp_call rfl (c_chain k m _ w2 (by omega) (hK.ext (xr.trans x2)))) ?_
      rintro _ w3 ⟨b3, k3, n3, a3, lc3, c3, rfl, hd3, x3⟩
      refine WU.stp rfl rfl rfl (stp_call rfl (c_IdenticalPlain (hd2.ext x3) hd3 (chainT_ok _ _) (chainT_ok _ _))) ?_
      rintro _ w4 ⟨rfl, x4⟩
      have x0 := xr.trans (x2.trans (x3.trans x4))
      (repeat (first
          | (guard_target =~ gU _; first
              | refine WU.yld rfl rfl rfl (by first | (guard_target =~ gY (.move _); exact ze rfl) | (guard_target =~ gY (.binOp .eql _ _ _ _); first | exact yh rfl rfl ) ) ?_
              )
          ))
      rw [show (decide ((chainT l n).gt = (chainT k m).gt) == decide ((chainT l n).gt = (chainT k m).gt)) = true by simp]
      (repeat (first
          | (guard_target =~ gU _; first
              | refine WU.yld rfl rfl rfl (by first | (guard_target =~ gY (.move _); exact ze rfl) ) ?_
              )
          ))
      refine WU.stp rfl rfl rfl (stp_call rfl (c_chain l n _ w4 (by omega) (hI.ext x0))) ?_
      rintro _ w5 ⟨b5, k5, n5, a5, lc5, c5, rfl, hd5, x5⟩
      (repeat (first
          | (guard_target =~ gU _; first
              | refine WU.yld rfl rfl rfl (by first | (guard_target =~ gY (.move _); exact ze rfl) ) ?_
              )
          ))
      refine WU.stp rfl rfl rfl (stp_call rfl (c_chain l n _ w5 (by omega) (hI.ext (x0.trans x5)))) ?_
      rintro _ w6 ⟨b6, k6, n6, a6, lc6, c6, rfl, hd6, x6⟩
      refine WU.stp rfl rfl rfl (stp_call rfl (c_IdenticalPlain (hd5.ext x6) hd6 (chainT_ok _ _) (chainT_ok _ _))) ?_
      rintro _ w7 ⟨rfl, x7⟩
      (repeat (first
          | (guard_target =~ gU _; first
              | (guard_target =~ gU []; first | refine WU.nilk ?_ )
              | refine WU.yld rfl rfl rfl (by first | (guard_target =~ gY (.assign _); exact yf rfl) | (guard_target =~ gY (.pick _ _ _); first | exact zv rfl rfl ) ) ?_
              )
          | (guard_target =~ gW .ret; refine W.ret ?_)
          ))
      exact fin1 (.inl rfl) rfl rfl ⟨by simp, x0.trans (x5.trans (x6.trans x7))⟩
end Go.Proofs.YtnmodbmaokilaaaGreatDoor
