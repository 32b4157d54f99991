/- Which of Push's calls is the method Push, and with what. -/
import Derived.Test.YtejhccnhkmkchaaCallLaws
namespace Go.Proofs.Ytejhccnhkmkchaa
theorem pushCalls_kind (l : List (Int × Int)) (k t : Int) : ∀ c ∈ (pushCalls (bitsN l.length) l k t).2, c.kind = 3 → c.len = l.length ∧ c.i = k ∧ c.j = t := by
  intro c hc h3
  rcases (pushCalls_adds l k t).all c hc with h | h | h
  · obtain rfl := List.mem_singleton.1 h
    exact ⟨rfl, rfl, rfl⟩
  · omega
  · omega
end Go.Proofs.Ytejhccnhkmkchaa
