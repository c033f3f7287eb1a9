/- A tree that stands in the text: its places lie in the text, and what is written of it is short. No condition but that the text has at most 4096 bytes, stated in each lemma. -/
import Derived.Test.YtffdebhaclkhjaaPr3
set_option linter.unusedVariables false
set_option linter.unusedSimpArgs false
namespace Go.Proofs.Ytffdebhaclkhjaa.PFnPrWholeDefault
open Go.RowKit Go.Proofs.YtffdebhaclkhjaaW.PrintWords
theorem lineR_of {s : ByteArray} {p j : Nat} : ∀ {r : Es}, r.wf s p j → (r.lineR s).length = 2 + (r.line s).length
  | .nil, h => by rw [Es.wf] at h; exact h.elim
  | .cons t r, _ => by rw [Es.lineR, Es.line]; simp only [List.length_cons]; omega
mutual
theorem T.wf_ok {s : ByteArray} (hn : s.size ≤ 4096) : ∀ t : T, t.wf s → t.ok s ∧ t.i < t.j ∧ t.j ≤ s.size ∧ (t.line s).length ≤ 2 * (t.j - t.i)
  | .leaf kd i j, h => by
    rw [T.wf] at h
    obtain ⟨h1, h2, h3⟩ := h
    refine ⟨?_, h1, h2, ?_⟩
    · rw [T.ok]
      unfold LeafOK at h3
      rcases h3 with h | h | h | h | h <;> exact ⟨by omega, h2, by omega, by omega⟩
    · rw [T.line, sl_length h2]; simp only [T.i, T.j]; omega
  | .arr i j es, h => by
    rw [T.wf] at h
    obtain ⟨h1, h2, p, ⟨hp1, hp2, _⟩, h3⟩ := h
    rcases h3 with ⟨h4, h5, h6⟩ | h4
    · have := bt_in h4 (by decide)
      subst h6
      refine ⟨?_, h2, by simp only [T.j]; omega, ?_⟩
      · rw [T.ok, Es.l, Es.line, Es.ok]; exact ⟨by omega, by omega, by simp, by simp, trivial⟩
      · rw [T.line, Es.line]; simp only [List.length_cons, List.length_append, List.length_nil, T.i, T.j]; omega
    · obtain ⟨k1, k2, k3, k4, k5⟩ := Es.wf_ok hn es p j h4
      refine ⟨?_, h2, k3, ?_⟩
      · rw [T.ok]; exact ⟨by omega, k3, by omega, by omega, k1⟩
      · rw [T.line]; simp only [List.length_cons, List.length_append, List.length_nil, T.i, T.j]; omega
  | .obj i j ms, h => by
    rw [T.wf] at h
    obtain ⟨h1, h2, p, ⟨hp1, hp2, _⟩, h3⟩ := h
    rcases h3 with ⟨h4, h5, h6⟩ | h4
    · have := bt_in h4 (by decide)
      subst h6
      refine ⟨?_, h2, by simp only [T.j]; omega, ?_⟩
      · rw [T.ok, Ms.l, Ms.ok]; exact ⟨by omega, by omega, by simp, trivial⟩
      · rw [T.line, sl_length (by omega)]; simp only [T.i, T.j]; omega
    · obtain ⟨k1, k2, k3, k4⟩ := Ms.wf_ok hn ms p j h4
      refine ⟨?_, h2, k3, ?_⟩
      · rw [T.ok]; exact ⟨by omega, k3, by omega, k1⟩
      · rw [T.line, sl_length k3]; simp only [T.i, T.j]; omega
theorem Es.wf_ok {s : ByteArray} (hn : s.size ≤ 4096) : ∀ (es : Es) (p j : Nat), es.wf s p j → es.ok s ∧ p < j ∧ j ≤ s.size ∧ es.l.length ≤ j - p ∧ (es.line s).length + 2 ≤ 2 * (j - p)
  | .nil, p, j, h => by rw [Es.wf] at h; exact h.elim
  | .cons t r, p, j, h => by
    rw [Es.wf] at h
    obtain ⟨ht, hti, q, ⟨hq1, hq2, _⟩, h3⟩ := h
    obtain ⟨k1, k2, k3, k4⟩ := T.wf_ok hn t ht
    rw [Es.ok, Es.l, Es.line]
    rcases h3 with ⟨h4, h5, h6⟩ | ⟨h4, p', ⟨hp1, hp2, _⟩, h5⟩
    · have := bt_in h4 (by decide)
      subst h5
      rw [Es.ok, Es.l, Es.lineR]
      exact ⟨⟨k1, trivial⟩, by omega, by omega, by simp only [List.length_cons, List.length_nil]; omega, by simp only [List.length_append, List.length_nil]; omega⟩
    · obtain ⟨m1, m2, m3, m4, m5⟩ := Es.wf_ok hn r p' j h5
      have m6 := lineR_of h5
      exact ⟨⟨k1, m1⟩, by omega, m3, by simp only [List.length_cons]; omega, by simp only [List.length_append]; omega⟩
theorem Ms.wf_ok {s : ByteArray} (hn : s.size ≤ 4096) : ∀ (ms : Ms) (p j : Nat), ms.wf s p j → ms.ok s ∧ p < j ∧ j ≤ s.size ∧ ms.l.length ≤ j - p
  | .nil, p, j, h => by rw [Ms.wf] at h; exact h.elim
  | .cons ni nj t r, p, j, h => by
    rw [Ms.wf] at h
    obtain ⟨hni, hs, c, ⟨hc1, hc2, _⟩, hc3, v, ⟨hv1, hv2, _⟩, ht, hti, q, ⟨hq1, hq2, _⟩, h3⟩ := h
    obtain ⟨s1, s2, _⟩ := hs
    obtain ⟨k1, k2, k3, k4⟩ := T.wf_ok hn t ht
    rw [Ms.ok, Ms.l]
    rcases h3 with ⟨h4, h5, h6⟩ | ⟨h4, p', ⟨hp1, hp2, _⟩, h5⟩
    · have := bt_in h4 (by decide)
      subst h5
      rw [Ms.ok, Ms.l]
      exact ⟨⟨by omega, s2, k1, trivial⟩, by omega, by omega, by simp only [List.length_cons, List.length_nil]; omega⟩
    · obtain ⟨m1, m2, m3, m4⟩ := Ms.wf_ok hn r p' j h5
      exact ⟨⟨by omega, s2, k1, m1⟩, by omega, m3, by simp only [List.length_cons]; omega⟩
end
mutual
theorem T.bb {s : ByteArray} (hn : s.size ≤ 4096) : ∀ (t : T) (d col : Nat), t.wf s → d + (t.j - t.i) ≤ 4097 → (t.body s d col).length ≤ 8200 * (t.j - t.i)
  | .leaf kd i j, d, col, h, hd => by
    rw [T.wf] at h
    rw [T.body, sl_length h.2.1]; simp only [T.i, T.j]; omega
  | .arr i j .nil, d, col, h, hd => by
    rw [T.wf] at h
    have := h.2.1
    rw [T.body]; simp only [List.length_cons, List.length_nil, T.i, T.j]; omega
  | .obj i j .nil, d, col, h, hd => by
    rw [T.wf] at h
    have := h.2.1
    rw [T.body]; simp only [List.length_cons, List.length_nil, T.i, T.j]; omega
  | .arr i j (.cons t r), d, col, h, hd => by
    have hl := (T.wf_ok hn _ h).2.2.2
    rw [T.wf] at h
    obtain ⟨h1, h2, p, ⟨hp1, hp2, _⟩, h3⟩ := h
    rw [T.body]
    simp only [T.i, T.j] at hd hl ⊢
    split
    · omega
    · rcases h3 with ⟨_, _, h6⟩ | h4
      · exact absurd h6 (by simp)
      · rw [Es.wf] at h4
        obtain ⟨ht, hti, q, ⟨hq1, hq2, _⟩, h3⟩ := h4
        obtain ⟨k1, k2, k3, k4⟩ := T.wf_ok hn t ht
        simp only [List.length_cons, List.length_append, List.length_nil, ind_length]
        rcases h3 with ⟨h4, h5, h6⟩ | ⟨h4, p', ⟨hp3, hp4, _⟩, h5⟩
        · subst h5
          have b1 := T.bb hn t (d + 1) (2 * (d + 1) + 1) ht (by omega)
          rw [Es.bodyR]; simp only [List.length_nil]; omega
        · obtain ⟨m1, m2, m3, m4, m5⟩ := Es.wf_ok hn r p' j h5
          have b1 := T.bb hn t (d + 1) (2 * (d + 1) + 1) ht (by omega)
          have b2 := Es.bb hn r p' j (d + 1) h5 (by omega)
          omega
  | .obj i j (.cons ni nj t r), d, col, h, hd => by
    rw [T.wf] at h
    obtain ⟨h1, h2, p, ⟨hp1, hp2, _⟩, h3⟩ := h
    rw [T.body]
    simp only [T.i, T.j] at hd ⊢
    rcases h3 with ⟨_, _, h6⟩ | h4
    · exact absurd h6 (by simp)
    · rw [Ms.wf] at h4
      obtain ⟨hni, hs, c, ⟨hc1, hc2, _⟩, hc3, v, ⟨hv1, hv2, _⟩, ht, hti, q, ⟨hq1, hq2, _⟩, h3⟩ := h4
      obtain ⟨s1, s2, _⟩ := hs
      obtain ⟨k1, k2, k3, k4⟩ := T.wf_ok hn t ht
      simp only [List.length_cons, List.length_append, List.length_nil, ind_length, sl_length s2]
      rcases h3 with ⟨h4, h5, h6⟩ | ⟨h4, p', ⟨hp3, hp4, _⟩, h5⟩
      · subst h5
        have b1 := T.bb hn t (d + 1) (2 * (d + 1) + (nj - ni) + 3) ht (by omega)
        rw [Ms.bodyR]; simp only [List.length_nil]; omega
      · obtain ⟨m1, m2, m3, m4⟩ := Ms.wf_ok hn r p' j h5
        have b1 := T.bb hn t (d + 1) (2 * (d + 1) + (nj - ni) + 3) ht (by omega)
        have b2 := Ms.bb hn r p' j (d + 1) h5 (by omega)
        omega
theorem Es.bb {s : ByteArray} (hn : s.size ≤ 4096) : ∀ (es : Es) (p j d : Nat), es.wf s p j → d + (j - p) ≤ 4097 → (es.bodyR s d).length ≤ 8200 * (j - p - 1) + 2 + 2 * d
  | .nil, p, j, d, h, hd => by rw [Es.wf] at h; exact h.elim
  | .cons t r, p, j, d, h, hd => by
    rw [Es.wf] at h
    obtain ⟨ht, hti, q, ⟨hq1, hq2, _⟩, h3⟩ := h
    obtain ⟨k1, k2, k3, k4⟩ := T.wf_ok hn t ht
    rw [Es.bodyR]
    simp only [List.length_cons, List.length_append, List.length_nil, ind_length]
    rcases h3 with ⟨h4, h5, h6⟩ | ⟨h4, p', ⟨hp3, hp4, _⟩, h5⟩
    · subst h5
      have b1 := T.bb hn t d (2 * d) ht (by omega)
      rw [Es.bodyR]; simp only [List.length_nil]; omega
    · obtain ⟨m1, m2, m3, m4, m5⟩ := Es.wf_ok hn r p' j h5
      have b1 := T.bb hn t d (2 * d) ht (by omega)
      have b2 := Es.bb hn r p' j d h5 (by omega)
      omega
theorem Ms.bb {s : ByteArray} (hn : s.size ≤ 4096) : ∀ (ms : Ms) (p j d : Nat), ms.wf s p j → d + (j - p) ≤ 4097 → (ms.bodyR s d).length ≤ 8200 * (j - p - 1) + 2 + 2 * d
  | .nil, p, j, d, h, hd => by rw [Ms.wf] at h; exact h.elim
  | .cons ni nj t r, p, j, d, h, hd => by
    rw [Ms.wf] at h
    obtain ⟨hni, hs, c, ⟨hc1, hc2, _⟩, hc3, v, ⟨hv1, hv2, _⟩, ht, hti, q, ⟨hq1, hq2, _⟩, h3⟩ := h
    obtain ⟨s1, s2, _⟩ := hs
    obtain ⟨k1, k2, k3, k4⟩ := T.wf_ok hn t ht
    rw [Ms.bodyR]
    simp only [List.length_cons, List.length_append, List.length_nil, ind_length, sl_length s2]
    rcases h3 with ⟨h4, h5, h6⟩ | ⟨h4, p', ⟨hp3, hp4, _⟩, h5⟩
    · subst h5
      have b1 := T.bb hn t d (2 * d + (nj - ni) + 3) ht (by omega)
      rw [Ms.bodyR]; simp only [List.length_nil]; omega
    · obtain ⟨m1, m2, m3, m4⟩ := Ms.wf_ok hn r p' j h5
      have b1 := T.bb hn t d (2 * d + (nj - ni) + 3) ht (by omega)
      have b2 := Ms.bb hn r p' j d h5 (by omega)
      omega
end
end Go.Proofs.Ytffdebhaclkhjaa.PFnPrWholeDefault
