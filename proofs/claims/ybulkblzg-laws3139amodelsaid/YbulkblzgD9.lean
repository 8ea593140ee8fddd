import Derived.Test.YbulkblzgB7
import Derived.Test.YbulkblzgD4
namespace Go.Proofs.Ybulkblzg

theorem mark_ok : MarkOK := by
  intro c pp pb pt pf nt tc gt gf fc Ts fd w0 hk hnp hp hpc hbc hbl hlen hnt ht htc htl hfd
  exact mark_walk c pp pb pt pf nt tc gt gf fc Ts fd w0 hk hnp (trie_any c pp pb w0 hk (fun h => ⟨(hp h).1, (hp h).2.1, (hp h).2.2.2.1, (hp h).2.2.2.2.1⟩) hpc hbc hbl hlen)
    (fun h => ⟨(hp h).2.1, (hp h).2.2.1, (hp h).2.2.2.2.1, (hp h).2.2.2.2.2⟩) hbc hbl hnt ht htc htl hfd
end Go.Proofs.Ybulkblzg
