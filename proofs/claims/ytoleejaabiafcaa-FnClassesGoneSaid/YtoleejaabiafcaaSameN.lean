/- Nodes as data that are the same; plain. -/
import Derived.Test.YtoleejaabiafcaaNodes
namespace Go.Proofs.Ytoleejaabiafcaa

/-- The same node. -/
structure SameN (m n : NodeD) : Prop where
  kind : m.kind = n.kind
  tag : m.tag = n.tag
  text : m.text = n.text
  attrs : m.attrs = n.attrs
  size : m.size = n.size

end Go.Proofs.Ytoleejaabiafcaa
