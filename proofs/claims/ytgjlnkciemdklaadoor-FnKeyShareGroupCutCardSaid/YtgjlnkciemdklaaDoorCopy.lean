/-
  THE BUILTIN copy INTO A ROW OF BYTES THAT THE CALL OWNS, over any program, at the operation: in a plain region, and as the tail of a region that only reads before it. Plain lemmas; no condition.
-/
import Derived.Test.YtgjlnkciemdklaaDoorMem
import Derived.StillTailTactics
namespace Go.Proofs.YtgjlnkciemdklaaDoor
set_option linter.unusedSimpArgs false
set_option linter.unusedVariables false
open Go.RowKit

section
variable {P : Program} (w : World) {ops : Array Oper} {rest : List Oper} {o : Oper} {a : Act} {Q : Exit → Act → World → Prop}
/-- 'copy(d, s)' of bytes. -/
theorem wpList_copy_bytes (hgd : Region.wanted o (yielded ops a.tmps) = true) (d s : Operand) (dT sT : TypeId) (ho : o.op = .call { callee := .builtin .copy, args := #[d, s], argTypes := #[dT, sT] })
    (base : Nat) (e : TypeId) (hu : P.underlying dT = some (.slice e)) (hinfo : (P.info? e).map (fun i => (i.zero, i.size, i.bytes)) = some (some (.int .u8 0), 1, 1))
    (dp sp : Option Addr) (dLen dCap sLen sCap : Nat) (hd : a.eval d = .slice dp dLen dCap) (hs : a.eval s = .slice sp sLen sCap)
    (g cap off : Nat) (l cs : List UInt8) (hown : Own w base e g cap l) (hn : cs.length = Nat.min sLen dLen)
    (hpos : 0 < cs.length → dp = some ⟨g, off, none⟩ ∧ ∃ b so, sp = some ⟨b, so, none⟩ ∧ Bytes w b so cs) (hfit : off + cs.length ≤ l.length)
    (h : ∀ w', Own w' base e g cap (l.take off ++ (cs ++ l.drop (off + cs.length))) → w.grownBy w' (some g) → wpList P ops Q rest (a.put o.dst (goInt cs.length)) w') :
    wpList P ops Q (o :: rest) a w := by
  obtain ⟨i0, hi, hz0, hz1, hz2⟩ := info_parts hinfo
  have hsz : (P.info? e).map (·.size) = some 1 := by rw [hi]; simp [hz1]
  refine wpList_on hgd fun K hK => ?_
  by_cases h0 : cs.length = 0
  · obtain rfl : cs = [] := List.eq_nil_of_length_eq_zero h0
    have hrun := run_copy_none (P := P) w dT sT o.type e dp sp dLen dCap sLen sCap hu hsz (by simpa using hn.symm)
    unfold Oper.wp
    simp [execOp, ho, resolve, invoke, builtin, hd, hs, hrun, Result.andThen]
    exact hK _ _ (h w (by simpa using hown) (World.grownBy.refl _ _))
  · obtain ⟨rfl, b, so, rfl, hB⟩ := hpos (by omega)
    obtain ⟨h1, h2⟩ := hown
    rcases h2 with ⟨h2, _⟩ | ⟨g', cap', cur, hv, hg, hh, hlc, hcm, hcs, htake⟩
    · cases h2
    · obtain ⟨rfl, rfl⟩ : g' = g ∧ cap' = cap := by simp at hv; exact ⟨hv.1.symm, hv.2.symm⟩
      rw [Nat.mul_one] at htake hcs
      have hcur : cur.toList = bvals l ++ cur.toList.drop l.length := by rw [← htake, List.take_append_drop]
      have hbl : (bvals l).length = l.length := bvals_length l
      have hbc : (bvals cs).length = cs.length := bvals_length cs
      have hf' : off + (bvals cs).length ≤ cur.size := by rw [hbc]; omega
      have hrun := run_copy_row (P := P) w dT sT o.type e g' off dLen dCap ⟨b, so, none⟩ sLen sCap cur e (bvals cs) hu hsz hh (by rw [hbc]; exact hn) hB.news hf' (bvals_oneCell _)
      unfold Oper.wp
      simp only [execOp, ho, resolve, invoke, builtin, Sem.run_bind, Sem.run_pure, Result.andThen_ok, List.map_toArray, List.map_cons, List.map_nil, hd, hs, hrun, hbc]
      refine hK _ _ (h _ ?_ ⟨rfl, rfl, rfl, by simp, fun k _ hne => setRow_other w g' k _ (fun e => hne (by rw [e]))⟩)
      have hlen : (l.take off ++ (cs ++ l.drop (off + cs.length))).length = l.length := by simp; omega
      unfold Own
      rw [hlen]
      refine ⟨by rw [bvals_length, hlen, Nat.mul_one], .inr ⟨g', cap', _, rfl, hg, setRow_heap w g' cur _ e (0, 0) hh, hlc, hcm, ?_, ?_⟩⟩
      · have : cur.toList.length = cur.size := by simp
        simp
        omega
      · rw [Nat.mul_one, hcur]
        have e1 : (bvals l ++ cur.toList.drop l.length).take off = bvals (l.take off) := by
          rw [List.take_append_of_le_length (by omega)]
          simp [bvals, List.map_take]
        have e2 : (bvals l ++ cur.toList.drop l.length).drop (off + cs.length) = bvals (l.drop (off + cs.length)) ++ cur.toList.drop l.length := by
          rw [List.drop_append_of_le_length (by omega)]
          simp [bvals, List.map_drop]
        rw [e1, e2, ← List.append_assoc, ← List.append_assoc, ← bvals_append, ← bvals_append]
        have e3 : (bvals (l.take off ++ cs ++ l.drop (off + cs.length))).length = l.length := by rw [bvals_length]; simp; omega
        simp only []
        rw [← e3, List.take_left, List.append_assoc]
end
end Go.Proofs.YtgjlnkciemdklaaDoor
